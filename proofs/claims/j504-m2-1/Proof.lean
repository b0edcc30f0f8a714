import JvmDerived
import JvmDerived.Pilot.@@N@@Statement
import JvmDerived.Pilot.@@N@@Code
set_option linter.unusedVariables false
set_option linter.unusedSimpArgs false
@@BLOCK:LamKit.lean.txt@@
set_option maxRecDepth 65536
set_option maxHeartbeats 40000000
namespace Jvm.Pilot.@@N@@
open Jvm Jvm.ClassFile Sem Op Lib Jvm.Free Jvm.Stand Jvm.LawKit Jvm.RoadKit Bundle Jvm.Pilot.@@N@@.Jvm.D
/-! THE LAYER: what a body does from a point on, as one sentence ('o_9x); a contract is 'o_9w. K: the launch, the start's state, the string constants that are held, 'nothing is interned'. M: the method, its bytes, its locals, what it returns, its room. -/
abbrev o_b : Type := Launch × State × List (String × Nat) × Bool
abbrev o_b.l (K : o_b) : Launch := K.1
abbrev o_b.Z (K : o_b) : State := K.2.1
abbrev o_b.E (K : o_b) : List (String × Nat) := K.2.2.1
abbrev o_b.nw (K : o_b) : Bool := K.2.2.2
abbrev o_b.n (K : o_b) : Nat := K.Z.heap.size
abbrev o_7 : Type := MethodName × ByteArray × Nat × Option FieldType × Room
abbrev o_7.y (M : o_7) : MethodName := M.1
abbrev o_7.b (M : o_7) : ByteArray := M.2.1
abbrev o_7.mx (M : o_7) : Nat := M.2.2.1
abbrev o_7.ret (M : o_7) : Option FieldType := M.2.2.2.1
abbrev o_7.R (M : o_7) : Room := M.2.2.2.2
abbrev o_0g : Type := Option Value → Heap → List Addr → Prop
def o_c (q : Value → Heap → List Addr → Prop) : o_0g := fun v h xs => ∃ w, v = some w ∧ q w h xs
def o_09 (q : Heap → List Addr → Prop) : o_0g := fun v h xs => v = none ∧ q h xs
def o_46 (K : o_b) (M : o_7) (p : Program) (s : State) (m : MethodId) (meth : Method) (c : Code) : Prop :=
  p.tables.exec = Jvm.exec ∧ c.code = M.b ∧ c.maxLocals = M.mx ∧ s.vm.findClass M.y.cls = some m.cls ∧ (meth.name = M.y.name ∧ K.Z.methodNamed? M.y = some m) ∧ meth.sig.returnType = M.ret ∧ meth.locks = false ∧ K.Z.Warmed39 s.vm ∧ ∃ a0, EW K.Z a0 K.E
def o_2n (K : o_b) (vm : Vm) (h : Heap) (xs : List Addr) : Prop := ∀ x ∈ xs, K.n ≤ x ∧ x < h.size ∧ Safe K.Z K.E vm h x
def o_5y (K : o_b) (s : State) (vm0 : Vm) (k0 : Nat) (h : Heap) (sf : List Addr) : Prop :=
  s.Since vm0 k0 ∧ k0 ≤ h.size ∧ (K.nw = true → s.WarmedH vm0) ∧ CHr K.Z K.E s.vm s.heap vm0 h ∧ o_2n K vm0 h sf ∧ Ext K.Z.heap h
def o_8u (K : o_b) (R : Room) (Q : o_0g) (s : State) (o : Outcome) (t : State) : Prop :=
  ∃ v L xs, o = .returned v ∧ Q v t.heap xs ∧ Fr K.n L ∧ CHr K.Z K.E s.vm s.heap t.vm t.heap ∧ o_2n K t.vm t.heap xs ∧ Ext K.Z.heap t.heap ∧ ReturnedEndW s o t L R.cells R.slots ∧ (K.nw = true → s.WarmedH t.vm)
def o_8v (K : o_b) (R : Room) (Q : o_0g) (p : Program) (e : Env) (below : List Frame) (s F : State) : Prop :=
  ∃ s₂ o, Steps p.tables e below F s₂ ∧ s₂.status = .running ∧ Ended s₂ below o ∧ o_8u K R Q s o s₂
def o_3 (K : o_b) (M : o_7) (Q : o_0g) (pc : Nat) (Ls : List Slot) (St : List Value) (sf : List Addr) (h : Heap) (cs sl : Nat) : Prop :=
  ∀ (p : Program) (e : Env) (s : State) (vm0 : Vm) (k0 : Nat) (m : MethodId) (args : Array Value) (below : List Frame) (meth : Method) (c : Code) (T : State) (locs : List Loc) (cs' sl' : Nat),
    o_46 K M p (s.setVm vm0) m meth c → Stand p K.l e M.R (s.setVm vm0) m args below meth c T locs cs' sl' → cs' ≤ cs → sl' ≤ sl → T.heap = h → Fr K.n locs → o_5y K s vm0 k0 h sf →
    o_8v K M.R Q p e below s (T.setTop (mkF m pc Ls.toArray St))
def o_9 (K : o_b) (M : o_7) (as' : Array Value) (sf : List Addr) (h : Heap) (Q : o_0g) : Prop :=
  ∀ ws : List Jvm.Cond, MetFree K.l M.y (head1 (Jvm.Cond.code M.y M.b M.mx M.ret :: ws) M.R) (fun a U => a = as' ∧ K.Z.Warmed39 U.vm ∧ U.heap = h ∧ (∃ a0, EW K.Z a0 K.E) ∧ CHv K.Z K.E U.vm h ∧ o_2n K U.vm h sf ∧ Ext K.Z.heap h) (fun _ _ _ _ _ => True) (fun _ U o U' => o_8u K M.R Q U o U')
section Core
variable {K : o_b} {M : o_7} {Q : o_0g} {pc pc' : Nat} {Ls Ls' : List Slot} {St St' : List Value} {sf : List Addr} {h : Heap} {cs sl : Nat} {a0 : Array Value}
theorem o_t {h h' h2 : Heap} (E : Ext h h') (E' : Ext h' h2) : Ext h h2 := ⟨Nat.le_trans E.1 E'.1, fun x c q => E'.2 x c (E.2 x c q)⟩
theorem o_3y (h : Heap) : Ext h h := ⟨Nat.le_refl _, fun _ _ q => q⟩
theorem o_12 (hpn : plainFor M.y = true) {as' : Array Value} (ef : ∀ m : MethodId, entryFrame m as' M.mx = mkF m 0 Ls.toArray []) (k : o_3 K M Q 0 Ls [] sf h 0 0) : o_9 K M as' sf h Q := by
  intro ws
  refine MetFree.of_bodySF hpn hisR ?_
  intro p e s m args below meth c s₁ Bd hml0 hP hK
  obtain ⟨rfl, hZ, hh, hEW, hC, hsf, hE⟩ := hP
  have hown : s.vm.findClass M.y.cls = some m.cls := findClass_of_methodNamed Bd.named
  have hnm : meth.name = M.y.name ∧ K.Z.methodNamed? M.y = some m := ⟨(name_of_methodNamed Bd.named Bd.method).1, by rw [← State.methodNamed?_setVm (s := K.Z) hZ.alike M.y]; exact Bd.named⟩
  have X0 : Stand p K.l e M.R s m args below meth c s₁ [] 0 0 := Stand.of_body Bd
  have e0 : s₁.heap = h := by rw [← hh, Bd.state]; rfl
  have hI : o_5y K s s.vm 0 h sf := ⟨(State.WarmedH.refl s).since _, Nat.zero_le _, fun _ => State.WarmedH.refl s, by rw [← hh]; exact CHr.refl (by rw [hh]; exact hC), hsf, hE⟩
  obtain ⟨s₂, o, h1, h2, h3, h4⟩ := k p e s s.vm 0 m args below meth c s₁ [] 0 0 ⟨Bd.exec, Bd.bytes, hml0, hown, hnm, Bd.returns, BodyLoose.notSynchronized Bd, hZ, hEW⟩ X0 (Nat.le_refl _) (Nat.le_refl _) e0 (Fr.nil _) hI
  refine ⟨s₂, o, ?_, h2, h3, h4⟩
  rw [ef m]
  exact h1
theorem o_e (k : o_3 K M Q pc' Ls' St' sf h cs sl)
    (st : ∀ (p : Program) (e : Env) (s : State) (m : MethodId) (args : Array Value) (below : List Frame) (meth : Method) (c : Code) (T : State) (locs : List Loc) (cs' sl' : Nat), o_46 K M p s m meth c → Stand p K.l e M.R s m args below meth c T locs cs' sl' → T.heap = h →
      ∀ t, Steps p.tables e below (T.setTop (mkF m pc' Ls'.toArray St')) t → Steps p.tables e below (T.setTop (mkF m pc Ls.toArray St)) t) : o_3 K M Q pc Ls St sf h cs sl := by
  intro p e s vm0 k0 m args below meth c T locs cs' sl' B X hc hs eT N I
  obtain ⟨s₂, o, h1, r⟩ := k p e s vm0 k0 m args below meth c T locs cs' sl' B X hc hs eT N I
  exact ⟨s₂, o, st p e _ m args below meth c T locs cs' sl' B X eT _ h1, r⟩
theorem o_32 (k : o_3 K M Q pc' Ls' St' sf h cs sl)
    (st : ∀ (p : Program) (e : Env) (s : State) (m : MethodId) (args : Array Value) (below : List Frame) (meth : Method) (c : Code) (T : State) (locs : List Loc) (cs' sl' : Nat), o_46 K M p s m meth c → Stand p K.l e M.R s m args below meth c T locs cs' sl' → T.heap = h → Ext K.Z.heap h →
      ∃ T', Stand p K.l e M.R s m args below meth c T' locs cs' sl' ∧ T'.heap = h ∧ ∀ t, Steps p.tables e below (T'.setTop (mkF m pc' Ls'.toArray St')) t → Steps p.tables e below (T.setTop (mkF m pc Ls.toArray St)) t) : o_3 K M Q pc Ls St sf h cs sl := by
  intro p e s vm0 k0 m args below meth c T locs cs' sl' B X hc hs eT N I
  obtain ⟨T', X', e', st'⟩ := st p e _ m args below meth c T locs cs' sl' B X eT I.2.2.2.2.2
  obtain ⟨s₂, o, h1, r⟩ := k p e s vm0 k0 m args below meth c T' locs cs' sl' B X' hc hs e' N I
  exact ⟨s₂, o, st' _ h1, r⟩
theorem o_2n.new {vm : Vm} {h' : Heap} (E : Ext h h') (hH : CHv K.Z K.E vm h) (hE : Ext K.Z.heap h) (hlt : h.size < h'.size) (S : o_2n K vm h sf) : o_2n K vm h' (h.size :: sf) := by
  intro x hx
  rcases List.mem_cons.mp hx with rfl | hx
  · exact ⟨hE.1, hlt, Safe.ext E hH (Safe.new (Nat.le_refl _))⟩
  · obtain ⟨q1, q2, q3⟩ := S x hx
    exact ⟨q1, Nat.lt_of_lt_of_le q2 E.1, Safe.ext E hH q3⟩
theorem o_4z {dc ds : Nat} {P : Heap → Prop} (hc : cs + dc ≤ M.R.cells) (hs : sl + ds ≤ M.R.slots)
    (k : ∀ h', Ext h h' → P h' → o_3 K M Q pc' Ls' St' (h.size :: sf) h' (cs + dc) (sl + ds))
    (st : ∀ (p : Program) (e : Env) (s : State) (m : MethodId) (args : Array Value) (below : List Frame) (meth : Method) (c : Code) (T : State) (locs : List Loc) (cs' sl' : Nat), o_46 K M p s m meth c → Stand p K.l e M.R s m args below meth c T locs cs' sl' → cs' + dc ≤ M.R.cells → sl' + ds ≤ M.R.slots → T.heap = h →
      ∃ T' h', Stand p K.l e M.R s m args below meth c T' locs (cs' + dc) (sl' + ds) ∧ T'.heap = h' ∧ Ext h h' ∧ h.size < h'.size ∧ P h' ∧ ∀ t, Steps p.tables e below (T'.setTop (mkF m pc' Ls'.toArray St')) t → Steps p.tables e below (T.setTop (mkF m pc Ls.toArray St)) t) : o_3 K M Q pc Ls St sf h cs sl := by
  intro p e s vm0 k0 m args below meth c T locs cs' sl' B X hc' hs' eT N I
  obtain ⟨T', h', X', e', E, hlt, hP, st'⟩ := st p e _ m args below meth c T locs cs' sl' B X (by omega) (by omega) eT
  obtain ⟨i1, i2, i3, i4, i5, i6⟩ := I
  obtain ⟨s₂, o, h1, r⟩ := k h' E hP p e s vm0 k0 m args below meth c T' locs (cs' + dc) (sl' + ds) B X' (by omega) (by omega) e' N ⟨i1, Nat.le_trans i2 E.1, i3, i4.trans (CHr.ext E i4.1), o_2n.new E i4.1 i6 hlt i5, o_t i6 E⟩
  exact ⟨s₂, o, st' _ h1, r⟩
theorem o_2n.wr {vm : Vm} {h' : Heap} {a : Addr} {i : Nat} {v : Value} (W : Wr h h' a i v) (hH : CHv K.Z K.E vm h) (ha : a ∈ sf) (S : o_2n K vm h sf) : o_2n K vm h' sf := by
  intro x hx
  obtain ⟨q1, q2, q3⟩ := S x hx
  exact ⟨q1, by rw [W.size]; exact q2, Safe.wr W (S a ha).2.2 hH q3⟩
theorem o_8w {h h' : Heap} {Z : State} {a : Addr} {i : Nat} {v : Value} (W : Wr h h' a i v) (ha : Z.heap.size ≤ a) (E : Ext Z.heap h) : Ext Z.heap h' := by
  have K := Keep.of_wr W
  exact ⟨by rw [W.size]; exact E.1, fun x c q => K.2.1 x c (E.2 x c q) (by
    intro hm
    have h1 : x < Z.heap.size := (Array.getElem?_eq_some_iff.mp q).1
    have h2 := List.mem_singleton.mp hm
    subst h2
    exact Nat.lt_irrefl _ (Nat.lt_of_lt_of_le h1 ha))⟩
theorem o_56 {a : Addr} {i : Nat} {v : Value} (ha : a ∈ sf) (k : ∀ h', Wr h h' a i v → o_3 K M Q pc' Ls' St' sf h' cs sl)
    (st : ∀ (p : Program) (e : Env) (s : State) (m : MethodId) (args : Array Value) (below : List Frame) (meth : Method) (c : Code) (T : State) (locs : List Loc) (cs' sl' : Nat), o_46 K M p s m meth c → Stand p K.l e M.R s m args below meth c T locs cs' sl' → T.heap = h →
      ∃ T' h', Stand p K.l e M.R s m args below meth c T' (locs ++ [⟨a, i⟩]) cs' sl' ∧ T'.heap = h' ∧ Wr h h' a i v ∧ ∀ t, Steps p.tables e below (T'.setTop (mkF m pc' Ls'.toArray St')) t → Steps p.tables e below (T.setTop (mkF m pc Ls.toArray St)) t) : o_3 K M Q pc Ls St sf h cs sl := by
  intro p e s vm0 k0 m args below meth c T locs cs' sl' B X hc' hs' eT N I
  obtain ⟨T', h', X', e', W, st'⟩ := st p e _ m args below meth c T locs cs' sl' B X eT
  obtain ⟨i1, i2, i3, i4, i5, i6⟩ := I
  have hn := (i5 a ha).1
  obtain ⟨s₂, o, h1, r⟩ := k h' W p e s vm0 k0 m args below meth c T' _ cs' sl' B X' hc' hs' e' (Fr.snoc X' N hn) ⟨i1, by rw [W.size]; exact i2, i3, i4.trans (CHr.wr W (i5 a ha).2.2 i4.1), o_2n.wr W i4.1 ha i5, o_8w W hn i6⟩
  exact ⟨s₂, o, st' _ h1, r⟩
/-- fewer writable places, more room spent: a weaker sentence -/
theorem o_s {sf' : List Addr} {cs1 sl1 : Nat} (k : o_3 K M Q pc Ls St sf' h cs1 sl1) (hsf : ∀ x ∈ sf', x ∈ sf) (hc : cs ≤ cs1) (hs : sl ≤ sl1) : o_3 K M Q pc Ls St sf h cs sl :=
  fun p e s vm0 k0 m args below meth c T locs cs' sl' B X hc' hs' eT N I => k p e s vm0 k0 m args below meth c T locs cs' sl' B X (Nat.le_trans hc' hc) (Nat.le_trans hs' hs) eT N ⟨I.1, I.2.1, I.2.2.1, I.2.2.2.1, fun x hx => I.2.2.2.2.1 x (hsf x hx), I.2.2.2.2.2⟩
/-- the end -/
theorem o_57 {v : Option Value} (hv : M.ret = none → v = none) (hc : cs ≤ M.R.cells) (hs : sl ≤ M.R.slots) (q : Q v h sf)
    (st : ∀ (p : Program) (e : Env) (s : State) (m : MethodId) (args : Array Value) (below : List Frame) (meth : Method) (c : Code) (T : State) (locs : List Loc) (cs' sl' : Nat), o_46 K M p s m meth c → Stand p K.l e M.R s m args below meth c T locs cs' sl' →
      ∀ fs, (∀ (f : JFrame) (acts : List Action), f.method = m → f.locked = none → f.entered = [] → (doReturn e (T.setTop f) acts v).1 = T.setFrames fs) → Steps p.tables e below (T.setTop (mkF m pc Ls.toArray St)) (T.setFrames fs)) : o_3 K M Q pc Ls St sf h cs sl := by
  intro p e s vm0 k0 m args below meth c T locs cs' sl' B X hc' hs' eT N I
  obtain ⟨i1, i2, i3, i4, i5, i6⟩ := I
  have hlk : meth.locks = false := B.2.2.2.2.2.2.1
  have hr : meth.sig.returnType = M.ret := B.2.2.2.2.2.1
  obtain ⟨a1, hEW⟩ := B.2.2.2.2.2.2.2.2
  obtain ⟨fs, h1, h2, h3, h4⟩ := X.leaveW i1 (by rw [eT]; exact i2) (v := v) (by rw [hr]; exact hv) hlk
  have A : CHr K.Z K.E vm0 h T.vm h := CHv.at X B.2.2.2.2.2.2.2.1 hEW i4.1
  refine ⟨_, _, st p e _ m args below meth c T locs cs' sl' B X fs h1, h2, h3, v, locs, sf, rfl, ?_, N, ?_, ?_, ?_, ?_, ?_⟩
  · show Q v T.heap sf; rw [eT]; exact q
  · show CHr K.Z K.E s.vm s.heap T.vm T.heap; rw [eT]; exact i4.trans A
  · show o_2n K T.vm T.heap sf
    rw [eT]
    exact fun x hx => ⟨(i5 x hx).1, (i5 x hx).2.1, A.safe (i5 x hx).2.1 (i5 x hx).2.2⟩
  · show Ext K.Z.heap T.heap; rw [eT]; exact i6
  · obtain ⟨r1, r2, r3, r4⟩ := h4
    exact ⟨r1, r2, r3, r4.mono (by omega) (by omega)⟩
  · exact fun q => State.WarmedH.trans (t := s.setVm vm0) (i3 q) X.warmed
end Core
section Calls
variable {K : o_b} {M M' : o_7} {Q Q' : o_0g} {pc pc' : Nat} {Ls : List Slot} {St rest : List Value} {sf sf' : List Addr} {h : Heap} {cs sl : Nat} {a0 : Array Value}
theorem o_47 {R : Room} {p : Program} {e : Env} {s : State} {vm0 : Vm} {k0 : Nat} {below : List Frame} {args as' : Array Value} {len W : Nat} (hM : o_9 K M' as' sf' h Q') (hsf : ∀ x ∈ sf', x ∈ sf) (hZ : K.Z.Warmed39 vm0) (hEW : ∃ a0, EW K.Z a0 K.E) (I : o_5y K s vm0 k0 h sf)
    (wc : (Jvm.Cond.code M'.y M'.b M'.mx M'.ret).before a0 K.Z = true) (wz : (Jvm.Cond.initialized M'.y.cls).before a0 K.Z = true) (hf : M'.R.frames + 1 ≤ R.frames) (hl : W + (M'.mx + 11) + M'.R.locals ≤ R.locals) :
    BackS K.l R p e below (s.setVm vm0) args M'.y len W (fun A a => a = as' ∧ A.U.heap = h ∧ A.cells + M'.R.cells ≤ R.cells ∧ A.slots + M'.R.slots ≤ R.slots)
      (fun A _ v B => ∃ L xs, Q' v B.U.heap xs ∧ Fr K.n L ∧ B.locs = A.locs ++ L ∧ B.cells = A.cells + M'.R.cells ∧ B.slots = A.slots + M'.R.slots ∧ CHr K.Z K.E vm0 h B.U.vm B.U.heap ∧ o_2n K B.U.vm B.U.heap xs ∧ Ext K.Z.heap B.U.heap ∧ (K.nw = true → (s.setVm vm0).WarmedH B.U.vm)) := by
  obtain ⟨a1, hE⟩ := hEW
  have H := I.2.2.2.1.1
  exact BackS.of_freeW (bytes := M'.b) (maxL := M'.mx) (ret := M'.ret) (E := fun _ first o t L k n => k = M'.R.cells ∧ n = M'.R.slots ∧ ∃ v xs, o = .returned v ∧ Q' v t.heap xs ∧ Fr K.n L ∧ CHr K.Z K.E first.vm first.heap t.vm t.heap ∧ o_2n K t.vm t.heap xs ∧ Ext K.Z.heap t.heap ∧ (K.nw = true → first.WarmedH t.vm)) (hM []) hf hl
    (fun m meth c A a Y hp => have hU : K.Z.Warmed39 A.U.vm := wtrans (s := s.setVm vm0) hZ Y.warmed
      ⟨by show (Jvm.Cond.and _ .tt).before a A.U = true; rw [Cond.before_and, mv hU wc]; rfl, mv hU wc, mv hU wz, hp.2.2.1, hp.2.2.2⟩)
    (fun m meth c A a g mk Y hp => ⟨hp.1, wtrans (s := s.setVm vm0) hZ Y.warmed, hp.2.1, ⟨a1, hE⟩, (CHv.at Y hZ hE H).1, fun x hx => have q := I.2.2.2.2.1 x (hsf x hx); ⟨q.1, q.2.1, (CHv.at Y hZ hE H).safe q.2.1 q.2.2⟩, I.2.2.2.2.2⟩)
    (fun _ _ _ _ _ _ _ _ _ => trivial)
    (fun _ _ _ _ ⟨v, L, xs, h1, h2, h3, h4, h5, h6, h7, h8⟩ => ⟨L, _, _, h7, rfl, rfl, v, xs, h1, h2, h3, h4, h5, h6, h8⟩)
    (fun m meth c A a g mk v t L k n Y hp _ _ ⟨e1, e2, v', xs, e3, e4, e5, e6, e7, e8, e9⟩ => by
      cases e3; subst e1 e2
      refine ⟨L, xs, e4, e5, rfl, rfl, rfl, (CHv.at Y hZ hE H).trans ?_, e7, e8, fun q => ?_⟩
      · rw [← hp.2.1]; exact e6
      · exact State.WarmedH.trans Y.warmed (e9 q))
theorem o_3p {p : Program} {e : Env} {s : State} {vm0 : Vm} {k0 : Nat} {m : MethodId} {args : Array Value} {below : List Frame} {meth : Method} {c : Code} {T : State} {locs : List Loc} {cs' sl' : Nat} {v : Option Value} {B : Pt}
    (k : ∀ v h' xs, Q' v h' xs → o_3 K M Q pc' Ls (v.toList ++ rest) (xs ++ sf) h' (cs + M'.R.cells) (sl + M'.R.slots)) (Bd : o_46 K M p (s.setVm vm0) m meth c) (hc : cs' ≤ cs) (hs : sl' ≤ sl) (eT : T.heap = h) (N : Fr K.n locs) (I : o_5y K s vm0 k0 h sf)
    (X' : Stand p K.l e M.R ((s.setVm vm0).setVm B.U.vm) m args below meth c B.U B.locs B.cells B.slots) (hS : (s.setVm vm0).Since B.U.vm B.U.heap.size) (hg : T.heap.size ≤ B.U.heap.size)
    (P : ∃ L xs, Q' v B.U.heap xs ∧ Fr K.n L ∧ B.locs = locs ++ L ∧ B.cells = cs' + M'.R.cells ∧ B.slots = sl' + M'.R.slots ∧ CHr K.Z K.E vm0 h B.U.vm B.U.heap ∧ o_2n K B.U.vm B.U.heap xs ∧ Ext K.Z.heap B.U.heap ∧ (K.nw = true → (s.setVm vm0).WarmedH B.U.vm))
    {F : State} (st : Steps p.tables e below F (B.U.setTop (mkF m pc' Ls.toArray (v.toList ++ rest)))) : o_8v K M.R Q p e below s F := by
  obtain ⟨U, l1, c1, s1⟩ := B
  obtain ⟨L, xs, q, NL, eL, ec, es, C, S, E, w⟩ := P
  dsimp only [Pt.U, Pt.locs, Pt.cells, Pt.slots] at X' hS hg q eL ec es C S E w st
  subst eL ec es
  obtain ⟨i1, i2, i3, i4, i5, i6⟩ := I
  obtain ⟨b1, b2, b3, b4, b5, b6, b7, b8, b9⟩ := Bd
  obtain ⟨X2, S2, Z2, O2⟩ := rebS (Z := K.Z) (own := M.y.cls) i1 (n1 := T.heap.size) (by rw [eT]; exact i2) X' hS hg b8 b4
  obtain ⟨s₂, o, h1, r⟩ := k v U.heap xs q p e s U.vm U.heap.size m args below meth c U (locs ++ L) _ _ ⟨b1, b2, b3, O2, b5, b6, b7, Z2, b9⟩ X2 (Nat.add_le_add_right hc _) (Nat.add_le_add_right hs _) rfl (N.app NL)
    ⟨S2, Nat.le_refl _, fun q => State.WarmedH.trans (t := s.setVm vm0) (i3 q) (w q), i4.trans C, fun x hx => by
      rcases List.mem_append.mp hx with hx | hx
      · exact S x hx
      · exact ⟨(i5 x hx).1, Nat.lt_of_lt_of_le (i5 x hx).2.1 C.2.1, C.safe (i5 x hx).2.1 (i5 x hx).2.2⟩, E⟩
  exact ⟨s₂, o, st.trans h1, r⟩
theorem o_2v {index : Nat} {argsL : List Value} (hd : decode M.b pc = .ok (.invokestatic index, 3)) (hp : pc + 3 = pc') (w1 : (Jvm.Cond.methodLink M.y.cls index M'.y).before a0 K.Z = true) (w2 : (Jvm.Cond.static M'.y).before a0 K.Z = true) (w3 : (Jvm.Cond.initialized M'.y.cls).before a0 K.Z = true) (w4 : (Jvm.Cond.code M'.y M'.b M'.mx M'.ret).before a0 K.Z = true)
    (hy : M'.y.cls ≠ "java/lang/invoke/MethodHandle" ∧ M'.y.cls ≠ "java/lang/invoke/VarHandle") (hsz : Ls.length = M.mx) (hlen : ∀ sig, parseMethodDescriptor M'.y.desc = some sig → argsL.length = sig.parameters.length) (hst : St = argsL.reverse ++ rest)
    (hf : Nat.ble (M'.R.frames + 1) M.R.frames = true) (hl : Nat.ble ((rest.map fun v => v.category).sum + (M'.mx + 11) + M'.R.locals) M.R.locals = true) (hc : Nat.ble (cs + M'.R.cells) M.R.cells = true) (hs : Nat.ble (sl + M'.R.slots) M.R.slots = true)
    (hM : o_9 K M' argsL.toArray sf' h Q') (hsf : ∀ x ∈ sf', x ∈ sf) (k : ∀ v h' xs, Q' v h' xs → o_3 K M Q pc' Ls (v.toList ++ rest) (xs ++ sf) h' (cs + M'.R.cells) (sl + M'.R.slots)) : o_3 K M Q pc Ls St sf h cs sl := by
  subst hst hp
  intro p e s vm0 k0 m args below meth c T locs cs' sl' B X hc' hs' eT N I
  have q1 := Nat.le_of_ble_eq_true hf
  have q2 := Nat.le_of_ble_eq_true hl
  have q3 := Nat.le_of_ble_eq_true hc
  have q4 := Nat.le_of_ble_eq_true hs
  obtain ⟨v, vm₁, B', -, X', hS, hg, P, st⟩ := callSS X B.1 (y := M'.y) (bytes := M'.b) (maxL := M'.mx) (ret := M'.ret) B.2.2.2.1 (mv B.2.2.2.2.2.2.2.1 w1) (mv B.2.2.2.2.2.2.2.1 w2) (mv B.2.2.2.2.2.2.2.1 w3) (mv B.2.2.2.2.2.2.2.1 w4) hy
    (o_47 (W := (rest.map fun v => v.category).sum) hM hsf B.2.2.2.2.2.2.2.1 B.2.2.2.2.2.2.2.2 I w4 w3 q1 q2) (g := mkF m pc Ls.toArray (argsL.reverse ++ rest)) rfl (by rw [B.2.2.1, ← hsz]; simp) (argsL := argsL) (rest := rest) hlen rfl (by show 2 * 0 + _ ≤ _; omega) (hb B.2.1 hd)
    (fun vm₁ _ => ⟨rfl, eT, by show cs' + _ ≤ _; omega, by show sl' + _ ≤ _; omega⟩)
  exact o_3p k B hc' hs' eT N I X' hS hg P st
theorem o_4g {index : Nat} {a : Addr} {argsL : List Value} (hd : decode M.b pc = .ok (.invokespecial index, 3)) (hp : pc + 3 = pc') (hn : M'.y.name = "<init>") (hrt : M'.ret = none) (w1 : (Jvm.Cond.methodLink M.y.cls index M'.y).before a0 K.Z = true) (w2 : (Jvm.Cond.instanceMethod M'.y).before a0 K.Z = true) (w3 : (Jvm.Cond.initialized M'.y.cls).before a0 K.Z = true) (w4 : (Jvm.Cond.code M'.y M'.b M'.mx M'.ret).before a0 K.Z = true)
    (hy : M'.y.cls ≠ "java/lang/invoke/MethodHandle" ∧ M'.y.cls ≠ "java/lang/invoke/VarHandle") (hsz : Ls.length = M.mx) (hlen : ∀ sig, parseMethodDescriptor M'.y.desc = some sig → argsL.length = sig.parameters.length) (hst : St = argsL.reverse ++ .ref a :: rest)
    (hf : Nat.ble (M'.R.frames + 1) M.R.frames = true) (hl : Nat.ble ((rest.map fun v => v.category).sum + (M'.mx + 11) + M'.R.locals) M.R.locals = true) (hc : Nat.ble (cs + M'.R.cells) M.R.cells = true) (hs : Nat.ble (sl + M'.R.slots) M.R.slots = true)
    (hM : o_9 K M' (.ref a :: argsL).toArray sf' h Q') (hsf : ∀ x ∈ sf', x ∈ sf) (k : ∀ v h' xs, Q' v h' xs → o_3 K M Q pc' Ls (v.toList ++ rest) (xs ++ sf) h' (cs + M'.R.cells) (sl + M'.R.slots)) : o_3 K M Q pc Ls St sf h cs sl := by
  subst hst hp
  intro p e s vm0 k0 m args below meth c T locs cs' sl' B X hc' hs' eT N I
  have q1 := Nat.le_of_ble_eq_true hf
  have q2 := Nat.le_of_ble_eq_true hl
  have q3 := Nat.le_of_ble_eq_true hc
  have q4 := Nat.le_of_ble_eq_true hs
  have w4' : (Jvm.Cond.code M'.y M'.b M'.mx none).before a0 K.Z = true := by rw [← hrt]; exact w4
  obtain ⟨v, vm₁, B', -, X', hS, hg, P, st⟩ := X.specialBackS B.1 (y := M'.y) hn B.2.2.2.1 (mv B.2.2.2.2.2.2.2.1 w1) (mv B.2.2.2.2.2.2.2.1 w2) (bytes := M'.b) (maxL := M'.mx) (mv B.2.2.2.2.2.2.2.1 w4') hy
    (o_47 (W := (rest.map fun v => v.category).sum) hM hsf B.2.2.2.2.2.2.2.1 B.2.2.2.2.2.2.2.2 I w4 w3 q1 q2) (g := mkF m pc Ls.toArray (argsL.reverse ++ .ref a :: rest)) rfl (by rw [B.2.2.1, ← hsz]; simp) (Steps.refl _) (a := a) (argsL := argsL) (rest := rest) hlen rfl (by show 2 * 0 + _ ≤ _; omega) (hb B.2.1 hd)
    (fun vm₁ _ => ⟨rfl, eT, by show cs' + _ ≤ _; omega, by show sl' + _ ≤ _; omega⟩)
  exact o_3p k B hc' hs' eT N I X' hS hg P st
theorem o_2k {index : Nat} {a : Addr} {C : String} {argsL : List Value} (hd : decode M.b pc = .ok (.invokevirtual index, 3)) (hp : pc + 3 = pc') (w1 : (Jvm.Cond.methodLink M.y.cls index M'.y).before a0 K.Z = true) (w2 : (Jvm.Cond.declares M'.y).before a0 K.Z = true) (w5 : (Jvm.Cond.selects C M'.y M'.y).before a0 K.Z = true) (w6 : (Jvm.Cond.instanceMethod M'.y).before a0 K.Z = true) (w3 : (Jvm.Cond.initialized M'.y.cls).before a0 K.Z = true) (w4 : (Jvm.Cond.code M'.y M'.b M'.mx M'.ret).before a0 K.Z = true)
    (hy : M'.y.cls ≠ "java/lang/invoke/MethodHandle" ∧ M'.y.cls ≠ "java/lang/invoke/VarHandle") (hsz : Ls.length = M.mx) (hlen : ∀ sig, parseMethodDescriptor M'.y.desc = some sig → argsL.length = sig.parameters.length) (hst : St = argsL.reverse ++ .ref a :: rest)
    (hf : Nat.ble (M'.R.frames + 1) M.R.frames = true) (hl : Nat.ble ((rest.map fun v => v.category).sum + (M'.mx + 11) + M'.R.locals) M.R.locals = true) (hc : Nat.ble (cs + M'.R.cells) M.R.cells = true) (hs : Nat.ble (sl + M'.R.slots) M.R.slots = true)
    (E : Exa K.Z h a C) (hM : o_9 K M' (.ref a :: argsL).toArray sf' h Q') (hsf : ∀ x ∈ sf', x ∈ sf) (k : ∀ v h' xs, Q' v h' xs → o_3 K M Q pc' Ls (v.toList ++ rest) (xs ++ sf) h' (cs + M'.R.cells) (sl + M'.R.slots)) : o_3 K M Q pc Ls St sf h cs sl := by
  subst hst hp
  intro p e s vm0 k0 m args below meth c T locs cs' sl' B X hc' hs' eT N I
  have q1 := Nat.le_of_ble_eq_true hf
  have q2 := Nat.le_of_ble_eq_true hl
  have q3 := Nat.le_of_ble_eq_true hc
  have q4 := Nat.le_of_ble_eq_true hs
  obtain ⟨cB, kB, r1, r2, r3⟩ := isOf (T := T) B.2.2.2.2.2.2.2.1 eT E
  obtain ⟨v, vm₁, B', -, X', hS, hg, P, st⟩ := X.virtualBackS B.1 (y := M'.y) (z := M'.y) B.2.2.2.1 (mv B.2.2.2.2.2.2.2.1 w1) (mv B.2.2.2.2.2.2.2.1 w2) (notFace_of_selects (args := #[]) (mv B.2.2.2.2.2.2.2.1 w5)) (mv B.2.2.2.2.2.2.2.1 w5) (mv B.2.2.2.2.2.2.2.1 w6) hy
    (o_47 (W := (rest.map fun v => v.category).sum) hM hsf B.2.2.2.2.2.2.2.1 B.2.2.2.2.2.2.2.2 I w4 w3 q1 q2) r1 r3 (g := mkF m pc Ls.toArray (argsL.reverse ++ .ref a :: rest)) rfl (by rw [B.2.2.1, ← hsz]; simp) (Steps.refl _) (argsL := argsL) (rest := rest) hlen rfl (by show 2 * 0 + _ ≤ _; omega) (hb B.2.1 hd)
    (fun vm₁ _ => ⟨rfl, eT, by show cs' + _ ≤ _; omega, by show sl' + _ ≤ _; omega⟩)
  exact o_3p k B hc' hs' eT N I X' hS hg P st
theorem o_7n {index : Nat} {q' : Value → Heap → List Addr → Prop} (hd : decode M.b pc = .ok (.invokestatic index, 3)) (hp : pc + 3 = pc') (w1 : (Jvm.Cond.methodLink M.y.cls index M'.y).before a0 K.Z = true) (w2 : (Jvm.Cond.static M'.y).before a0 K.Z = true) (w3 : (Jvm.Cond.initialized M'.y.cls).before a0 K.Z = true) (w4 : (Jvm.Cond.code M'.y M'.b M'.mx M'.ret).before a0 K.Z = true) (hy : M'.y.cls ≠ "java/lang/invoke/MethodHandle" ∧ M'.y.cls ≠ "java/lang/invoke/VarHandle") (hsz : Ls.length = M.mx) (hlen : ∀ sig, parseMethodDescriptor M'.y.desc = some sig → 0 = sig.parameters.length)
    (hf : Nat.ble (M'.R.frames + 1) M.R.frames = true) (hl : Nat.ble ((rest.map fun v => v.category).sum + (M'.mx + 11) + M'.R.locals) M.R.locals = true) (hc : Nat.ble (cs + M'.R.cells) M.R.cells = true) (hs : Nat.ble (sl + M'.R.slots) M.R.slots = true) (hM : o_9 K M' #[] sf' h (o_c q')) (hsf : ∀ x ∈ sf', x ∈ sf) (k : ∀ w h' xs, q' w h' xs → o_3 K M Q pc' Ls (w :: rest) (xs ++ sf) h' (cs + M'.R.cells) (sl + M'.R.slots)) :
    o_3 K M Q pc Ls (rest) sf h cs sl := o_2v (argsL := []) hd hp w1 w2 w3 w4 hy hsz hlen rfl hf hl hc hs hM hsf (fun v h' xs ⟨w, e, q⟩ => by subst e; exact k w h' xs q)
theorem o_03 {index : Nat} {v0 : Value} {q' : Value → Heap → List Addr → Prop} (hd : decode M.b pc = .ok (.invokestatic index, 3)) (hp : pc + 3 = pc') (w1 : (Jvm.Cond.methodLink M.y.cls index M'.y).before a0 K.Z = true) (w2 : (Jvm.Cond.static M'.y).before a0 K.Z = true) (w3 : (Jvm.Cond.initialized M'.y.cls).before a0 K.Z = true) (w4 : (Jvm.Cond.code M'.y M'.b M'.mx M'.ret).before a0 K.Z = true) (hy : M'.y.cls ≠ "java/lang/invoke/MethodHandle" ∧ M'.y.cls ≠ "java/lang/invoke/VarHandle") (hsz : Ls.length = M.mx) (hlen : ∀ sig, parseMethodDescriptor M'.y.desc = some sig → 1 = sig.parameters.length)
    (hf : Nat.ble (M'.R.frames + 1) M.R.frames = true) (hl : Nat.ble ((rest.map fun v => v.category).sum + (M'.mx + 11) + M'.R.locals) M.R.locals = true) (hc : Nat.ble (cs + M'.R.cells) M.R.cells = true) (hs : Nat.ble (sl + M'.R.slots) M.R.slots = true) (hM : o_9 K M' #[v0] sf' h (o_c q')) (hsf : ∀ x ∈ sf', x ∈ sf) (k : ∀ w h' xs, q' w h' xs → o_3 K M Q pc' Ls (w :: rest) (xs ++ sf) h' (cs + M'.R.cells) (sl + M'.R.slots)) :
    o_3 K M Q pc Ls (v0 :: rest) sf h cs sl := o_2v (argsL := [v0]) hd hp w1 w2 w3 w4 hy hsz hlen rfl hf hl hc hs hM hsf (fun v h' xs ⟨w, e, q⟩ => by subst e; exact k w h' xs q)
theorem o_0n {index : Nat} {v0 v1 : Value} {q' : Value → Heap → List Addr → Prop} (hd : decode M.b pc = .ok (.invokestatic index, 3)) (hp : pc + 3 = pc') (w1 : (Jvm.Cond.methodLink M.y.cls index M'.y).before a0 K.Z = true) (w2 : (Jvm.Cond.static M'.y).before a0 K.Z = true) (w3 : (Jvm.Cond.initialized M'.y.cls).before a0 K.Z = true) (w4 : (Jvm.Cond.code M'.y M'.b M'.mx M'.ret).before a0 K.Z = true) (hy : M'.y.cls ≠ "java/lang/invoke/MethodHandle" ∧ M'.y.cls ≠ "java/lang/invoke/VarHandle") (hsz : Ls.length = M.mx) (hlen : ∀ sig, parseMethodDescriptor M'.y.desc = some sig → 2 = sig.parameters.length)
    (hf : Nat.ble (M'.R.frames + 1) M.R.frames = true) (hl : Nat.ble ((rest.map fun v => v.category).sum + (M'.mx + 11) + M'.R.locals) M.R.locals = true) (hc : Nat.ble (cs + M'.R.cells) M.R.cells = true) (hs : Nat.ble (sl + M'.R.slots) M.R.slots = true) (hM : o_9 K M' #[v0, v1] sf' h (o_c q')) (hsf : ∀ x ∈ sf', x ∈ sf) (k : ∀ w h' xs, q' w h' xs → o_3 K M Q pc' Ls (w :: rest) (xs ++ sf) h' (cs + M'.R.cells) (sl + M'.R.slots)) :
    o_3 K M Q pc Ls (v1 :: v0 :: rest) sf h cs sl := o_2v (argsL := [v0, v1]) hd hp w1 w2 w3 w4 hy hsz hlen rfl hf hl hc hs hM hsf (fun v h' xs ⟨w, e, q⟩ => by subst e; exact k w h' xs q)
theorem o_5p {index : Nat} {v0 v1 : Value} {q' : Heap → List Addr → Prop} (hd : decode M.b pc = .ok (.invokestatic index, 3)) (hp : pc + 3 = pc') (w1 : (Jvm.Cond.methodLink M.y.cls index M'.y).before a0 K.Z = true) (w2 : (Jvm.Cond.static M'.y).before a0 K.Z = true) (w3 : (Jvm.Cond.initialized M'.y.cls).before a0 K.Z = true) (w4 : (Jvm.Cond.code M'.y M'.b M'.mx M'.ret).before a0 K.Z = true) (hy : M'.y.cls ≠ "java/lang/invoke/MethodHandle" ∧ M'.y.cls ≠ "java/lang/invoke/VarHandle") (hsz : Ls.length = M.mx) (hlen : ∀ sig, parseMethodDescriptor M'.y.desc = some sig → 2 = sig.parameters.length)
    (hf : Nat.ble (M'.R.frames + 1) M.R.frames = true) (hl : Nat.ble ((rest.map fun v => v.category).sum + (M'.mx + 11) + M'.R.locals) M.R.locals = true) (hc : Nat.ble (cs + M'.R.cells) M.R.cells = true) (hs : Nat.ble (sl + M'.R.slots) M.R.slots = true) (hM : o_9 K M' #[v0, v1] sf' h (o_09 q')) (hsf : ∀ x ∈ sf', x ∈ sf) (k : ∀ h' xs, q' h' xs → o_3 K M Q pc' Ls rest (xs ++ sf) h' (cs + M'.R.cells) (sl + M'.R.slots)) :
    o_3 K M Q pc Ls (v1 :: v0 :: rest) sf h cs sl := o_2v (argsL := [v0, v1]) hd hp w1 w2 w3 w4 hy hsz hlen rfl hf hl hc hs hM hsf (fun v h' xs ⟨e, q⟩ => by subst e; exact k h' xs q)
theorem o_13 {index : Nat} {v0 v1 v2 : Value} {q' : Value → Heap → List Addr → Prop} (hd : decode M.b pc = .ok (.invokestatic index, 3)) (hp : pc + 3 = pc') (w1 : (Jvm.Cond.methodLink M.y.cls index M'.y).before a0 K.Z = true) (w2 : (Jvm.Cond.static M'.y).before a0 K.Z = true) (w3 : (Jvm.Cond.initialized M'.y.cls).before a0 K.Z = true) (w4 : (Jvm.Cond.code M'.y M'.b M'.mx M'.ret).before a0 K.Z = true) (hy : M'.y.cls ≠ "java/lang/invoke/MethodHandle" ∧ M'.y.cls ≠ "java/lang/invoke/VarHandle") (hsz : Ls.length = M.mx) (hlen : ∀ sig, parseMethodDescriptor M'.y.desc = some sig → 3 = sig.parameters.length)
    (hf : Nat.ble (M'.R.frames + 1) M.R.frames = true) (hl : Nat.ble ((rest.map fun v => v.category).sum + (M'.mx + 11) + M'.R.locals) M.R.locals = true) (hc : Nat.ble (cs + M'.R.cells) M.R.cells = true) (hs : Nat.ble (sl + M'.R.slots) M.R.slots = true) (hM : o_9 K M' #[v0, v1, v2] sf' h (o_c q')) (hsf : ∀ x ∈ sf', x ∈ sf) (k : ∀ w h' xs, q' w h' xs → o_3 K M Q pc' Ls (w :: rest) (xs ++ sf) h' (cs + M'.R.cells) (sl + M'.R.slots)) :
    o_3 K M Q pc Ls (v2 :: v1 :: v0 :: rest) sf h cs sl := o_2v (argsL := [v0, v1, v2]) hd hp w1 w2 w3 w4 hy hsz hlen rfl hf hl hc hs hM hsf (fun v h' xs ⟨w, e, q⟩ => by subst e; exact k w h' xs q)
theorem o_7o {index : Nat} {v0 v1 v2 : Value} {q' : Heap → List Addr → Prop} (hd : decode M.b pc = .ok (.invokestatic index, 3)) (hp : pc + 3 = pc') (w1 : (Jvm.Cond.methodLink M.y.cls index M'.y).before a0 K.Z = true) (w2 : (Jvm.Cond.static M'.y).before a0 K.Z = true) (w3 : (Jvm.Cond.initialized M'.y.cls).before a0 K.Z = true) (w4 : (Jvm.Cond.code M'.y M'.b M'.mx M'.ret).before a0 K.Z = true) (hy : M'.y.cls ≠ "java/lang/invoke/MethodHandle" ∧ M'.y.cls ≠ "java/lang/invoke/VarHandle") (hsz : Ls.length = M.mx) (hlen : ∀ sig, parseMethodDescriptor M'.y.desc = some sig → 3 = sig.parameters.length)
    (hf : Nat.ble (M'.R.frames + 1) M.R.frames = true) (hl : Nat.ble ((rest.map fun v => v.category).sum + (M'.mx + 11) + M'.R.locals) M.R.locals = true) (hc : Nat.ble (cs + M'.R.cells) M.R.cells = true) (hs : Nat.ble (sl + M'.R.slots) M.R.slots = true) (hM : o_9 K M' #[v0, v1, v2] sf' h (o_09 q')) (hsf : ∀ x ∈ sf', x ∈ sf) (k : ∀ h' xs, q' h' xs → o_3 K M Q pc' Ls rest (xs ++ sf) h' (cs + M'.R.cells) (sl + M'.R.slots)) :
    o_3 K M Q pc Ls (v2 :: v1 :: v0 :: rest) sf h cs sl := o_2v (argsL := [v0, v1, v2]) hd hp w1 w2 w3 w4 hy hsz hlen rfl hf hl hc hs hM hsf (fun v h' xs ⟨e, q⟩ => by subst e; exact k h' xs q)
theorem o_2d {index : Nat} {v0 v1 v2 v3 : Value} {q' : Value → Heap → List Addr → Prop} (hd : decode M.b pc = .ok (.invokestatic index, 3)) (hp : pc + 3 = pc') (w1 : (Jvm.Cond.methodLink M.y.cls index M'.y).before a0 K.Z = true) (w2 : (Jvm.Cond.static M'.y).before a0 K.Z = true) (w3 : (Jvm.Cond.initialized M'.y.cls).before a0 K.Z = true) (w4 : (Jvm.Cond.code M'.y M'.b M'.mx M'.ret).before a0 K.Z = true) (hy : M'.y.cls ≠ "java/lang/invoke/MethodHandle" ∧ M'.y.cls ≠ "java/lang/invoke/VarHandle") (hsz : Ls.length = M.mx) (hlen : ∀ sig, parseMethodDescriptor M'.y.desc = some sig → 4 = sig.parameters.length)
    (hf : Nat.ble (M'.R.frames + 1) M.R.frames = true) (hl : Nat.ble ((rest.map fun v => v.category).sum + (M'.mx + 11) + M'.R.locals) M.R.locals = true) (hc : Nat.ble (cs + M'.R.cells) M.R.cells = true) (hs : Nat.ble (sl + M'.R.slots) M.R.slots = true) (hM : o_9 K M' #[v0, v1, v2, v3] sf' h (o_c q')) (hsf : ∀ x ∈ sf', x ∈ sf) (k : ∀ w h' xs, q' w h' xs → o_3 K M Q pc' Ls (w :: rest) (xs ++ sf) h' (cs + M'.R.cells) (sl + M'.R.slots)) :
    o_3 K M Q pc Ls (v3 :: v2 :: v1 :: v0 :: rest) sf h cs sl := o_2v (argsL := [v0, v1, v2, v3]) hd hp w1 w2 w3 w4 hy hsz hlen rfl hf hl hc hs hM hsf (fun v h' xs ⟨w, e, q⟩ => by subst e; exact k w h' xs q)
theorem o_3z {index : Nat} {v0 v1 v2 v3 v4 : Value} {q' : Value → Heap → List Addr → Prop} (hd : decode M.b pc = .ok (.invokestatic index, 3)) (hp : pc + 3 = pc') (w1 : (Jvm.Cond.methodLink M.y.cls index M'.y).before a0 K.Z = true) (w2 : (Jvm.Cond.static M'.y).before a0 K.Z = true) (w3 : (Jvm.Cond.initialized M'.y.cls).before a0 K.Z = true) (w4 : (Jvm.Cond.code M'.y M'.b M'.mx M'.ret).before a0 K.Z = true) (hy : M'.y.cls ≠ "java/lang/invoke/MethodHandle" ∧ M'.y.cls ≠ "java/lang/invoke/VarHandle") (hsz : Ls.length = M.mx) (hlen : ∀ sig, parseMethodDescriptor M'.y.desc = some sig → 5 = sig.parameters.length)
    (hf : Nat.ble (M'.R.frames + 1) M.R.frames = true) (hl : Nat.ble ((rest.map fun v => v.category).sum + (M'.mx + 11) + M'.R.locals) M.R.locals = true) (hc : Nat.ble (cs + M'.R.cells) M.R.cells = true) (hs : Nat.ble (sl + M'.R.slots) M.R.slots = true) (hM : o_9 K M' #[v0, v1, v2, v3, v4] sf' h (o_c q')) (hsf : ∀ x ∈ sf', x ∈ sf) (k : ∀ w h' xs, q' w h' xs → o_3 K M Q pc' Ls (w :: rest) (xs ++ sf) h' (cs + M'.R.cells) (sl + M'.R.slots)) :
    o_3 K M Q pc Ls (v4 :: v3 :: v2 :: v1 :: v0 :: rest) sf h cs sl := o_2v (argsL := [v0, v1, v2, v3, v4]) hd hp w1 w2 w3 w4 hy hsz hlen rfl hf hl hc hs hM hsf (fun v h' xs ⟨w, e, q⟩ => by subst e; exact k w h' xs q)
theorem o_10 {index : Nat} {a : Addr} {q' : Heap → List Addr → Prop} (hd : decode M.b pc = .ok (.invokespecial index, 3)) (hp : pc + 3 = pc') (hn : M'.y.name = "<init>") (hrt : M'.ret = none) (w1 : (Jvm.Cond.methodLink M.y.cls index M'.y).before a0 K.Z = true) (w2 : (Jvm.Cond.instanceMethod M'.y).before a0 K.Z = true) (w3 : (Jvm.Cond.initialized M'.y.cls).before a0 K.Z = true) (w4 : (Jvm.Cond.code M'.y M'.b M'.mx M'.ret).before a0 K.Z = true) (hy : M'.y.cls ≠ "java/lang/invoke/MethodHandle" ∧ M'.y.cls ≠ "java/lang/invoke/VarHandle") (hsz : Ls.length = M.mx) (hlen : ∀ sig, parseMethodDescriptor M'.y.desc = some sig → 0 = sig.parameters.length)
    (hf : Nat.ble (M'.R.frames + 1) M.R.frames = true) (hl : Nat.ble ((rest.map fun v => v.category).sum + (M'.mx + 11) + M'.R.locals) M.R.locals = true) (hc : Nat.ble (cs + M'.R.cells) M.R.cells = true) (hs : Nat.ble (sl + M'.R.slots) M.R.slots = true) (hM : o_9 K M' #[.ref a] sf' h (o_09 q')) (hsf : ∀ x ∈ sf', x ∈ sf) (k : ∀ h' xs, q' h' xs → o_3 K M Q pc' Ls rest (xs ++ sf) h' (cs + M'.R.cells) (sl + M'.R.slots)) :
    o_3 K M Q pc Ls (.ref a :: rest) sf h cs sl := o_4g (argsL := []) hd hp hn hrt w1 w2 w3 w4 hy hsz hlen rfl hf hl hc hs hM hsf (fun v h' xs ⟨e, q⟩ => by subst e; exact k h' xs q)
theorem o_35 {index : Nat} {a : Addr} {v0 : Value} {q' : Heap → List Addr → Prop} (hd : decode M.b pc = .ok (.invokespecial index, 3)) (hp : pc + 3 = pc') (hn : M'.y.name = "<init>") (hrt : M'.ret = none) (w1 : (Jvm.Cond.methodLink M.y.cls index M'.y).before a0 K.Z = true) (w2 : (Jvm.Cond.instanceMethod M'.y).before a0 K.Z = true) (w3 : (Jvm.Cond.initialized M'.y.cls).before a0 K.Z = true) (w4 : (Jvm.Cond.code M'.y M'.b M'.mx M'.ret).before a0 K.Z = true) (hy : M'.y.cls ≠ "java/lang/invoke/MethodHandle" ∧ M'.y.cls ≠ "java/lang/invoke/VarHandle") (hsz : Ls.length = M.mx) (hlen : ∀ sig, parseMethodDescriptor M'.y.desc = some sig → 1 = sig.parameters.length)
    (hf : Nat.ble (M'.R.frames + 1) M.R.frames = true) (hl : Nat.ble ((rest.map fun v => v.category).sum + (M'.mx + 11) + M'.R.locals) M.R.locals = true) (hc : Nat.ble (cs + M'.R.cells) M.R.cells = true) (hs : Nat.ble (sl + M'.R.slots) M.R.slots = true) (hM : o_9 K M' #[.ref a, v0] sf' h (o_09 q')) (hsf : ∀ x ∈ sf', x ∈ sf) (k : ∀ h' xs, q' h' xs → o_3 K M Q pc' Ls rest (xs ++ sf) h' (cs + M'.R.cells) (sl + M'.R.slots)) :
    o_3 K M Q pc Ls (v0 :: .ref a :: rest) sf h cs sl := o_4g (argsL := [v0]) hd hp hn hrt w1 w2 w3 w4 hy hsz hlen rfl hf hl hc hs hM hsf (fun v h' xs ⟨e, q⟩ => by subst e; exact k h' xs q)
theorem o_3v {index : Nat} {a : Addr} {v0 v1 : Value} {q' : Heap → List Addr → Prop} (hd : decode M.b pc = .ok (.invokespecial index, 3)) (hp : pc + 3 = pc') (hn : M'.y.name = "<init>") (hrt : M'.ret = none) (w1 : (Jvm.Cond.methodLink M.y.cls index M'.y).before a0 K.Z = true) (w2 : (Jvm.Cond.instanceMethod M'.y).before a0 K.Z = true) (w3 : (Jvm.Cond.initialized M'.y.cls).before a0 K.Z = true) (w4 : (Jvm.Cond.code M'.y M'.b M'.mx M'.ret).before a0 K.Z = true) (hy : M'.y.cls ≠ "java/lang/invoke/MethodHandle" ∧ M'.y.cls ≠ "java/lang/invoke/VarHandle") (hsz : Ls.length = M.mx) (hlen : ∀ sig, parseMethodDescriptor M'.y.desc = some sig → 2 = sig.parameters.length)
    (hf : Nat.ble (M'.R.frames + 1) M.R.frames = true) (hl : Nat.ble ((rest.map fun v => v.category).sum + (M'.mx + 11) + M'.R.locals) M.R.locals = true) (hc : Nat.ble (cs + M'.R.cells) M.R.cells = true) (hs : Nat.ble (sl + M'.R.slots) M.R.slots = true) (hM : o_9 K M' #[.ref a, v0, v1] sf' h (o_09 q')) (hsf : ∀ x ∈ sf', x ∈ sf) (k : ∀ h' xs, q' h' xs → o_3 K M Q pc' Ls rest (xs ++ sf) h' (cs + M'.R.cells) (sl + M'.R.slots)) :
    o_3 K M Q pc Ls (v1 :: v0 :: .ref a :: rest) sf h cs sl := o_4g (argsL := [v0, v1]) hd hp hn hrt w1 w2 w3 w4 hy hsz hlen rfl hf hl hc hs hM hsf (fun v h' xs ⟨e, q⟩ => by subst e; exact k h' xs q)
theorem o_4n {index : Nat} {a : Addr} {v0 v1 v2 v3 : Value} {q' : Heap → List Addr → Prop} (hd : decode M.b pc = .ok (.invokespecial index, 3)) (hp : pc + 3 = pc') (hn : M'.y.name = "<init>") (hrt : M'.ret = none) (w1 : (Jvm.Cond.methodLink M.y.cls index M'.y).before a0 K.Z = true) (w2 : (Jvm.Cond.instanceMethod M'.y).before a0 K.Z = true) (w3 : (Jvm.Cond.initialized M'.y.cls).before a0 K.Z = true) (w4 : (Jvm.Cond.code M'.y M'.b M'.mx M'.ret).before a0 K.Z = true) (hy : M'.y.cls ≠ "java/lang/invoke/MethodHandle" ∧ M'.y.cls ≠ "java/lang/invoke/VarHandle") (hsz : Ls.length = M.mx) (hlen : ∀ sig, parseMethodDescriptor M'.y.desc = some sig → 4 = sig.parameters.length)
    (hf : Nat.ble (M'.R.frames + 1) M.R.frames = true) (hl : Nat.ble ((rest.map fun v => v.category).sum + (M'.mx + 11) + M'.R.locals) M.R.locals = true) (hc : Nat.ble (cs + M'.R.cells) M.R.cells = true) (hs : Nat.ble (sl + M'.R.slots) M.R.slots = true) (hM : o_9 K M' #[.ref a, v0, v1, v2, v3] sf' h (o_09 q')) (hsf : ∀ x ∈ sf', x ∈ sf) (k : ∀ h' xs, q' h' xs → o_3 K M Q pc' Ls rest (xs ++ sf) h' (cs + M'.R.cells) (sl + M'.R.slots)) :
    o_3 K M Q pc Ls (v3 :: v2 :: v1 :: v0 :: .ref a :: rest) sf h cs sl := o_4g (argsL := [v0, v1, v2, v3]) hd hp hn hrt w1 w2 w3 w4 hy hsz hlen rfl hf hl hc hs hM hsf (fun v h' xs ⟨e, q⟩ => by subst e; exact k h' xs q)
theorem o_0p {index : Nat} {a : Addr} {C : String} {q' : Value → Heap → List Addr → Prop} (hd : decode M.b pc = .ok (.invokevirtual index, 3)) (hp : pc + 3 = pc') (w1 : (Jvm.Cond.methodLink M.y.cls index M'.y).before a0 K.Z = true) (w2 : (Jvm.Cond.declares M'.y).before a0 K.Z = true) (w5 : (Jvm.Cond.selects C M'.y M'.y).before a0 K.Z = true) (w6 : (Jvm.Cond.instanceMethod M'.y).before a0 K.Z = true) (w3 : (Jvm.Cond.initialized M'.y.cls).before a0 K.Z = true) (w4 : (Jvm.Cond.code M'.y M'.b M'.mx M'.ret).before a0 K.Z = true) (hy : M'.y.cls ≠ "java/lang/invoke/MethodHandle" ∧ M'.y.cls ≠ "java/lang/invoke/VarHandle") (hsz : Ls.length = M.mx) (hlen : ∀ sig, parseMethodDescriptor M'.y.desc = some sig → 0 = sig.parameters.length)
    (hf : Nat.ble (M'.R.frames + 1) M.R.frames = true) (hl : Nat.ble ((rest.map fun v => v.category).sum + (M'.mx + 11) + M'.R.locals) M.R.locals = true) (hc : Nat.ble (cs + M'.R.cells) M.R.cells = true) (hs : Nat.ble (sl + M'.R.slots) M.R.slots = true) (E : Exa K.Z h a C) (hM : o_9 K M' #[.ref a] sf' h (o_c q')) (hsf : ∀ x ∈ sf', x ∈ sf) (k : ∀ w h' xs, q' w h' xs → o_3 K M Q pc' Ls (w :: rest) (xs ++ sf) h' (cs + M'.R.cells) (sl + M'.R.slots)) :
    o_3 K M Q pc Ls (.ref a :: rest) sf h cs sl := o_2k (argsL := []) hd hp w1 w2 w5 w6 w3 w4 hy hsz hlen rfl hf hl hc hs E hM hsf (fun v h' xs ⟨w, e, q⟩ => by subst e; exact k w h' xs q)
theorem o_0l {index : Nat} {a : Addr} {C : String} {v0 : Value} {q' : Value → Heap → List Addr → Prop} (hd : decode M.b pc = .ok (.invokevirtual index, 3)) (hp : pc + 3 = pc') (w1 : (Jvm.Cond.methodLink M.y.cls index M'.y).before a0 K.Z = true) (w2 : (Jvm.Cond.declares M'.y).before a0 K.Z = true) (w5 : (Jvm.Cond.selects C M'.y M'.y).before a0 K.Z = true) (w6 : (Jvm.Cond.instanceMethod M'.y).before a0 K.Z = true) (w3 : (Jvm.Cond.initialized M'.y.cls).before a0 K.Z = true) (w4 : (Jvm.Cond.code M'.y M'.b M'.mx M'.ret).before a0 K.Z = true) (hy : M'.y.cls ≠ "java/lang/invoke/MethodHandle" ∧ M'.y.cls ≠ "java/lang/invoke/VarHandle") (hsz : Ls.length = M.mx) (hlen : ∀ sig, parseMethodDescriptor M'.y.desc = some sig → 1 = sig.parameters.length)
    (hf : Nat.ble (M'.R.frames + 1) M.R.frames = true) (hl : Nat.ble ((rest.map fun v => v.category).sum + (M'.mx + 11) + M'.R.locals) M.R.locals = true) (hc : Nat.ble (cs + M'.R.cells) M.R.cells = true) (hs : Nat.ble (sl + M'.R.slots) M.R.slots = true) (E : Exa K.Z h a C) (hM : o_9 K M' #[.ref a, v0] sf' h (o_c q')) (hsf : ∀ x ∈ sf', x ∈ sf) (k : ∀ w h' xs, q' w h' xs → o_3 K M Q pc' Ls (w :: rest) (xs ++ sf) h' (cs + M'.R.cells) (sl + M'.R.slots)) :
    o_3 K M Q pc Ls (v0 :: .ref a :: rest) sf h cs sl := o_2k (argsL := [v0]) hd hp w1 w2 w5 w6 w3 w4 hy hsz hlen rfl hf hl hc hs E hM hsf (fun v h' xs ⟨w, e, q⟩ => by subst e; exact k w h' xs q)
theorem o_72 {index : Nat} {a : Addr} {C : String} {v0 : Value} {q' : Heap → List Addr → Prop} (hd : decode M.b pc = .ok (.invokevirtual index, 3)) (hp : pc + 3 = pc') (w1 : (Jvm.Cond.methodLink M.y.cls index M'.y).before a0 K.Z = true) (w2 : (Jvm.Cond.declares M'.y).before a0 K.Z = true) (w5 : (Jvm.Cond.selects C M'.y M'.y).before a0 K.Z = true) (w6 : (Jvm.Cond.instanceMethod M'.y).before a0 K.Z = true) (w3 : (Jvm.Cond.initialized M'.y.cls).before a0 K.Z = true) (w4 : (Jvm.Cond.code M'.y M'.b M'.mx M'.ret).before a0 K.Z = true) (hy : M'.y.cls ≠ "java/lang/invoke/MethodHandle" ∧ M'.y.cls ≠ "java/lang/invoke/VarHandle") (hsz : Ls.length = M.mx) (hlen : ∀ sig, parseMethodDescriptor M'.y.desc = some sig → 1 = sig.parameters.length)
    (hf : Nat.ble (M'.R.frames + 1) M.R.frames = true) (hl : Nat.ble ((rest.map fun v => v.category).sum + (M'.mx + 11) + M'.R.locals) M.R.locals = true) (hc : Nat.ble (cs + M'.R.cells) M.R.cells = true) (hs : Nat.ble (sl + M'.R.slots) M.R.slots = true) (E : Exa K.Z h a C) (hM : o_9 K M' #[.ref a, v0] sf' h (o_09 q')) (hsf : ∀ x ∈ sf', x ∈ sf) (k : ∀ h' xs, q' h' xs → o_3 K M Q pc' Ls rest (xs ++ sf) h' (cs + M'.R.cells) (sl + M'.R.slots)) :
    o_3 K M Q pc Ls (v0 :: .ref a :: rest) sf h cs sl := o_2k (argsL := [v0]) hd hp w1 w2 w5 w6 w3 w4 hy hsz hlen rfl hf hl hc hs E hM hsf (fun v h' xs ⟨e, q⟩ => by subst e; exact k h' xs q)
theorem o_2r {index : Nat} {a : Addr} {C : String} {v0 v1 : Value} {q' : Value → Heap → List Addr → Prop} (hd : decode M.b pc = .ok (.invokevirtual index, 3)) (hp : pc + 3 = pc') (w1 : (Jvm.Cond.methodLink M.y.cls index M'.y).before a0 K.Z = true) (w2 : (Jvm.Cond.declares M'.y).before a0 K.Z = true) (w5 : (Jvm.Cond.selects C M'.y M'.y).before a0 K.Z = true) (w6 : (Jvm.Cond.instanceMethod M'.y).before a0 K.Z = true) (w3 : (Jvm.Cond.initialized M'.y.cls).before a0 K.Z = true) (w4 : (Jvm.Cond.code M'.y M'.b M'.mx M'.ret).before a0 K.Z = true) (hy : M'.y.cls ≠ "java/lang/invoke/MethodHandle" ∧ M'.y.cls ≠ "java/lang/invoke/VarHandle") (hsz : Ls.length = M.mx) (hlen : ∀ sig, parseMethodDescriptor M'.y.desc = some sig → 2 = sig.parameters.length)
    (hf : Nat.ble (M'.R.frames + 1) M.R.frames = true) (hl : Nat.ble ((rest.map fun v => v.category).sum + (M'.mx + 11) + M'.R.locals) M.R.locals = true) (hc : Nat.ble (cs + M'.R.cells) M.R.cells = true) (hs : Nat.ble (sl + M'.R.slots) M.R.slots = true) (E : Exa K.Z h a C) (hM : o_9 K M' #[.ref a, v0, v1] sf' h (o_c q')) (hsf : ∀ x ∈ sf', x ∈ sf) (k : ∀ w h' xs, q' w h' xs → o_3 K M Q pc' Ls (w :: rest) (xs ++ sf) h' (cs + M'.R.cells) (sl + M'.R.slots)) :
    o_3 K M Q pc Ls (v1 :: v0 :: .ref a :: rest) sf h cs sl := o_2k (argsL := [v0, v1]) hd hp w1 w2 w5 w6 w3 w4 hy hsz hlen rfl hf hl hc hs E hM hsf (fun v h' xs ⟨w, e, q⟩ => by subst e; exact k w h' xs q)
theorem o_73 {index : Nat} {a : Addr} {C : String} {v0 v1 v2 : Value} {q' : Value → Heap → List Addr → Prop} (hd : decode M.b pc = .ok (.invokevirtual index, 3)) (hp : pc + 3 = pc') (w1 : (Jvm.Cond.methodLink M.y.cls index M'.y).before a0 K.Z = true) (w2 : (Jvm.Cond.declares M'.y).before a0 K.Z = true) (w5 : (Jvm.Cond.selects C M'.y M'.y).before a0 K.Z = true) (w6 : (Jvm.Cond.instanceMethod M'.y).before a0 K.Z = true) (w3 : (Jvm.Cond.initialized M'.y.cls).before a0 K.Z = true) (w4 : (Jvm.Cond.code M'.y M'.b M'.mx M'.ret).before a0 K.Z = true) (hy : M'.y.cls ≠ "java/lang/invoke/MethodHandle" ∧ M'.y.cls ≠ "java/lang/invoke/VarHandle") (hsz : Ls.length = M.mx) (hlen : ∀ sig, parseMethodDescriptor M'.y.desc = some sig → 3 = sig.parameters.length)
    (hf : Nat.ble (M'.R.frames + 1) M.R.frames = true) (hl : Nat.ble ((rest.map fun v => v.category).sum + (M'.mx + 11) + M'.R.locals) M.R.locals = true) (hc : Nat.ble (cs + M'.R.cells) M.R.cells = true) (hs : Nat.ble (sl + M'.R.slots) M.R.slots = true) (E : Exa K.Z h a C) (hM : o_9 K M' #[.ref a, v0, v1, v2] sf' h (o_c q')) (hsf : ∀ x ∈ sf', x ∈ sf) (k : ∀ w h' xs, q' w h' xs → o_3 K M Q pc' Ls (w :: rest) (xs ++ sf) h' (cs + M'.R.cells) (sl + M'.R.slots)) :
    o_3 K M Q pc Ls (v2 :: v1 :: v0 :: .ref a :: rest) sf h cs sl := o_2k (argsL := [v0, v1, v2]) hd hp w1 w2 w5 w6 w3 w4 hy hsz hlen rfl hf hl hc hs E hM hsf (fun v h' xs ⟨w, e, q⟩ => by subst e; exact k w h' xs q)
theorem o_74 {index : Nat} {a : Addr} {C : String} {v0 v1 v2 : Value} {q' : Heap → List Addr → Prop} (hd : decode M.b pc = .ok (.invokevirtual index, 3)) (hp : pc + 3 = pc') (w1 : (Jvm.Cond.methodLink M.y.cls index M'.y).before a0 K.Z = true) (w2 : (Jvm.Cond.declares M'.y).before a0 K.Z = true) (w5 : (Jvm.Cond.selects C M'.y M'.y).before a0 K.Z = true) (w6 : (Jvm.Cond.instanceMethod M'.y).before a0 K.Z = true) (w3 : (Jvm.Cond.initialized M'.y.cls).before a0 K.Z = true) (w4 : (Jvm.Cond.code M'.y M'.b M'.mx M'.ret).before a0 K.Z = true) (hy : M'.y.cls ≠ "java/lang/invoke/MethodHandle" ∧ M'.y.cls ≠ "java/lang/invoke/VarHandle") (hsz : Ls.length = M.mx) (hlen : ∀ sig, parseMethodDescriptor M'.y.desc = some sig → 3 = sig.parameters.length)
    (hf : Nat.ble (M'.R.frames + 1) M.R.frames = true) (hl : Nat.ble ((rest.map fun v => v.category).sum + (M'.mx + 11) + M'.R.locals) M.R.locals = true) (hc : Nat.ble (cs + M'.R.cells) M.R.cells = true) (hs : Nat.ble (sl + M'.R.slots) M.R.slots = true) (E : Exa K.Z h a C) (hM : o_9 K M' #[.ref a, v0, v1, v2] sf' h (o_09 q')) (hsf : ∀ x ∈ sf', x ∈ sf) (k : ∀ h' xs, q' h' xs → o_3 K M Q pc' Ls rest (xs ++ sf) h' (cs + M'.R.cells) (sl + M'.R.slots)) :
    o_3 K M Q pc Ls (v2 :: v1 :: v0 :: .ref a :: rest) sf h cs sl := o_2k (argsL := [v0, v1, v2]) hd hp w1 w2 w5 w6 w3 w4 hy hsz hlen rfl hf hl hc hs E hM hsf (fun v h' xs ⟨e, q⟩ => by subst e; exact k h' xs q)
theorem o_75 {index : Nat} {a : Addr} {C : String} {v0 v1 v2 v3 : Value} {q' : Value → Heap → List Addr → Prop} (hd : decode M.b pc = .ok (.invokevirtual index, 3)) (hp : pc + 3 = pc') (w1 : (Jvm.Cond.methodLink M.y.cls index M'.y).before a0 K.Z = true) (w2 : (Jvm.Cond.declares M'.y).before a0 K.Z = true) (w5 : (Jvm.Cond.selects C M'.y M'.y).before a0 K.Z = true) (w6 : (Jvm.Cond.instanceMethod M'.y).before a0 K.Z = true) (w3 : (Jvm.Cond.initialized M'.y.cls).before a0 K.Z = true) (w4 : (Jvm.Cond.code M'.y M'.b M'.mx M'.ret).before a0 K.Z = true) (hy : M'.y.cls ≠ "java/lang/invoke/MethodHandle" ∧ M'.y.cls ≠ "java/lang/invoke/VarHandle") (hsz : Ls.length = M.mx) (hlen : ∀ sig, parseMethodDescriptor M'.y.desc = some sig → 4 = sig.parameters.length)
    (hf : Nat.ble (M'.R.frames + 1) M.R.frames = true) (hl : Nat.ble ((rest.map fun v => v.category).sum + (M'.mx + 11) + M'.R.locals) M.R.locals = true) (hc : Nat.ble (cs + M'.R.cells) M.R.cells = true) (hs : Nat.ble (sl + M'.R.slots) M.R.slots = true) (E : Exa K.Z h a C) (hM : o_9 K M' #[.ref a, v0, v1, v2, v3] sf' h (o_c q')) (hsf : ∀ x ∈ sf', x ∈ sf) (k : ∀ w h' xs, q' w h' xs → o_3 K M Q pc' Ls (w :: rest) (xs ++ sf) h' (cs + M'.R.cells) (sl + M'.R.slots)) :
    o_3 K M Q pc Ls (v3 :: v2 :: v1 :: v0 :: .ref a :: rest) sf h cs sl := o_2k (argsL := [v0, v1, v2, v3]) hd hp w1 w2 w5 w6 w3 w4 hy hsz hlen rfl hf hl hc hs E hM hsf (fun v h' xs ⟨w, e, q⟩ => by subst e; exact k w h' xs q)
theorem o_76 {index : Nat} {a : Addr} {C : String} {v0 v1 v2 v3 v4 : Value} {q' : Value → Heap → List Addr → Prop} (hd : decode M.b pc = .ok (.invokevirtual index, 3)) (hp : pc + 3 = pc') (w1 : (Jvm.Cond.methodLink M.y.cls index M'.y).before a0 K.Z = true) (w2 : (Jvm.Cond.declares M'.y).before a0 K.Z = true) (w5 : (Jvm.Cond.selects C M'.y M'.y).before a0 K.Z = true) (w6 : (Jvm.Cond.instanceMethod M'.y).before a0 K.Z = true) (w3 : (Jvm.Cond.initialized M'.y.cls).before a0 K.Z = true) (w4 : (Jvm.Cond.code M'.y M'.b M'.mx M'.ret).before a0 K.Z = true) (hy : M'.y.cls ≠ "java/lang/invoke/MethodHandle" ∧ M'.y.cls ≠ "java/lang/invoke/VarHandle") (hsz : Ls.length = M.mx) (hlen : ∀ sig, parseMethodDescriptor M'.y.desc = some sig → 5 = sig.parameters.length)
    (hf : Nat.ble (M'.R.frames + 1) M.R.frames = true) (hl : Nat.ble ((rest.map fun v => v.category).sum + (M'.mx + 11) + M'.R.locals) M.R.locals = true) (hc : Nat.ble (cs + M'.R.cells) M.R.cells = true) (hs : Nat.ble (sl + M'.R.slots) M.R.slots = true) (E : Exa K.Z h a C) (hM : o_9 K M' #[.ref a, v0, v1, v2, v3, v4] sf' h (o_c q')) (hsf : ∀ x ∈ sf', x ∈ sf) (k : ∀ w h' xs, q' w h' xs → o_3 K M Q pc' Ls (w :: rest) (xs ++ sf) h' (cs + M'.R.cells) (sl + M'.R.slots)) :
    o_3 K M Q pc Ls (v4 :: v3 :: v2 :: v1 :: v0 :: .ref a :: rest) sf h cs sl := o_2k (argsL := [v0, v1, v2, v3, v4]) hd hp w1 w2 w5 w6 w3 w4 hy hsz hlen rfl hf hl hc hs E hM hsf (fun v h' xs ⟨w, e, q⟩ => by subst e; exact k w h' xs q)
end Calls
section Plain
variable {K : o_b} {M : o_7} {Q : o_0g} {pc pc' : Nat} {Ls : List Slot} {St : List Value} {sf : List Addr} {h : Heap} {cs sl : Nat} {a0 : Array Value}
theorem o_3d {α : Type} {L : List α} {k : Nat} {v : α} (q : L[k]? = some v) : L.toArray[k]? = some v := by simpa using q
theorem o_1 {i : Fin 4} {v : Value} (hp : pc + 1 = pc') (hd : decode M.b pc = .ok (.aload_n i, 1)) (hl : Ls[i.val]? = some (.val v)) (hv : v.isRef = true) (k : o_3 K M Q pc' Ls (v :: St) sf h cs sl) : o_3 K M Q pc Ls St sf h cs sl :=
  o_e k fun p e s m args below meth c T locs cs' sl' B X eT t q => XS.aloadN X.here B.1 rfl (hb B.2.1 hd) (o_3d hl) hv (by subst hp; exact q)
theorem o_d {i : Nat} {v : Value} (hp : pc + 2 = pc') (hd : decode M.b pc = .ok (.aload i, 2)) (hl : Ls[i]? = some (.val v)) (hv : v.isRef = true) (k : o_3 K M Q pc' Ls (v :: St) sf h cs sl) : o_3 K M Q pc Ls St sf h cs sl :=
  o_e k fun p e s m args below meth c T locs cs' sl' B X eT t q => XS.aload X.here B.1 rfl (hb B.2.1 hd) (o_3d hl) hv (by subst hp; exact q)
theorem o_2 {i : Fin 4} {v : Int32} (hp : pc + 1 = pc') (hd : decode M.b pc = .ok (.iload_n i, 1)) (hl : Ls[i.val]? = some (.val (.int v))) (k : o_3 K M Q pc' Ls (.int v :: St) sf h cs sl) : o_3 K M Q pc Ls St sf h cs sl :=
  o_e k fun p e s m args below meth c T locs cs' sl' B X eT t q => XS.iloadN X.here B.1 rfl (hb B.2.1 hd) (o_3d hl) (by subst hp; exact q)
theorem o_a {i : Nat} {v : Int32} (hp : pc + 2 = pc') (hd : decode M.b pc = .ok (.iload i, 2)) (hl : Ls[i]? = some (.val (.int v))) (k : o_3 K M Q pc' Ls (.int v :: St) sf h cs sl) : o_3 K M Q pc Ls St sf h cs sl :=
  o_e k fun p e s m args below meth c T locs cs' sl' B X eT t q => XS.iload X.here B.1 rfl (hb B.2.1 hd) (o_3d hl) (by subst hp; exact q)
theorem o_4 {i : Int} {v : Int32} (hp : pc + 1 = pc') (hd : decode M.b pc = .ok (.iconst i, 1)) (hv : Int32.ofInt i = v) (k : o_3 K M Q pc' Ls (.int v :: St) sf h cs sl) : o_3 K M Q pc Ls St sf h cs sl :=
  o_e k fun p e s m args below meth c T locs cs' sl' B X eT t q => XS.iconst X.here B.1 rfl (hb B.2.1 hd) (by subst hp hv; exact q)
theorem o_u {i : Int} {v : Int32} (hp : pc + 2 = pc') (hd : decode M.b pc = .ok (.bipush i, 2)) (hv : (Int8.ofInt i).toInt32 = v) (k : o_3 K M Q pc' Ls (.int v :: St) sf h cs sl) : o_3 K M Q pc Ls St sf h cs sl :=
  o_e k fun p e s m args below meth c T locs cs' sl' B X eT t q => XS.bipush X.here B.1 rfl (hb B.2.1 hd) (by subst hp hv; exact q)
theorem o_1f {i : Int} {v : Int32} (hp : pc + 3 = pc') (hd : decode M.b pc = .ok (.sipush i, 3)) (hv : (Int16.ofInt i).toInt32 = v) (k : o_3 K M Q pc' Ls (.int v :: St) sf h cs sl) : o_3 K M Q pc Ls St sf h cs sl :=
  o_e k fun p e s m args below meth c T locs cs' sl' B X eT t q => XS.sipush X.here B.1 rfl (hb B.2.1 hd) (by subst hp hv; exact q)
theorem o_1c (hp : pc + 1 = pc') (hd : decode M.b pc = .ok (.aconst_null, 1)) (k : o_3 K M Q pc' Ls (.null :: St) sf h cs sl) : o_3 K M Q pc Ls St sf h cs sl :=
  o_e k fun p e s m args below meth c T locs cs' sl' B X eT t q => XS.aconstNull X.here B.1 rfl (hb B.2.1 hd) (by subst hp; exact q)
theorem o_0h {x y : Int32} (hp : pc + 1 = pc') (hd : decode M.b pc = .ok (.iadd, 1)) (k : o_3 K M Q pc' Ls (.int (x + y) :: St) sf h cs sl) : o_3 K M Q pc Ls (.int y :: .int x :: St) sf h cs sl :=
  o_e k fun p e s m args below meth c T locs cs' sl' B X eT t q => XS.iadd X.here B.1 rfl (hb B.2.1 hd) rfl (by subst hp; exact q)
theorem o_2x {x y : Int32} (hp : pc + 1 = pc') (hd : decode M.b pc = .ok (.isub, 1)) (k : o_3 K M Q pc' Ls (.int (x - y) :: St) sf h cs sl) : o_3 K M Q pc Ls (.int y :: .int x :: St) sf h cs sl :=
  o_e k fun p e s m args below meth c T locs cs' sl' B X eT t q => XS.isub X.here B.1 rfl (hb B.2.1 hd) rfl (by subst hp; exact q)
theorem o_1l {x y : Int32} (hp : pc + 1 = pc') (hd : decode M.b pc = .ok (.iand, 1)) (k : o_3 K M Q pc' Ls (.int (x &&& y) :: St) sf h cs sl) : o_3 K M Q pc Ls (.int y :: .int x :: St) sf h cs sl :=
  o_e k fun p e s m args below meth c T locs cs' sl' B X eT t q => XS.iand X.here B.1 rfl (hb B.2.1 hd) rfl (by subst hp; exact q)
theorem o_9k {x y : Int32} (hp : pc + 1 = pc') (hd : decode M.b pc = .ok (.imul, 1)) (k : o_3 K M Q pc' Ls (.int (x * y) :: St) sf h cs sl) : o_3 K M Q pc Ls (.int y :: .int x :: St) sf h cs sl :=
  o_e k fun p e s m args below meth c T locs cs' sl' B X eT t q => XS.imul X.here B.1 rfl (hb B.2.1 hd) rfl (by subst hp; exact q)
theorem o_9l {x y : Int32} (hp : pc + 1 = pc') (hd : decode M.b pc = .ok (.ixor, 1)) (k : o_3 K M Q pc' Ls (.int (x ^^^ y) :: St) sf h cs sl) : o_3 K M Q pc Ls (.int y :: .int x :: St) sf h cs sl :=
  o_e k fun p e s m args below meth c T locs cs' sl' B X eT t q => XS.ixor X.here B.1 rfl (hb B.2.1 hd) rfl (by subst hp; exact q)
theorem o_7p {x y : Int32} (hp : pc + 1 = pc') (hd : decode M.b pc = .ok (.ishr, 1)) (k : o_3 K M Q pc' Ls (.int (x >>> (y &&& 31)) :: St) sf h cs sl) : o_3 K M Q pc Ls (.int y :: .int x :: St) sf h cs sl :=
  o_e k fun p e s m args below meth c T locs cs' sl' B X eT t q => XS.ishr X.here B.1 rfl (hb B.2.1 hd) rfl (by subst hp; exact q)
theorem o_2e {x y : Int32} (hp : pc + 1 = pc') (hd : decode M.b pc = .ok (.iushr, 1)) (k : o_3 K M Q pc' Ls (.int (XT.ushr x y) :: St) sf h cs sl) : o_3 K M Q pc Ls (.int y :: .int x :: St) sf h cs sl :=
  o_e k fun p e s m args below meth c T locs cs' sl' B X eT t q => XT.iushr X.here B.1 rfl (hb B.2.1 hd) rfl (by subst hp; exact q)
theorem o_7q {x y : Int32} (hp : pc + 1 = pc') (hd : decode M.b pc = .ok (.irem, 1)) (hy : y ≠ 0) (k : o_3 K M Q pc' Ls (.int (x % y) :: St) sf h cs sl) : o_3 K M Q pc Ls (.int y :: .int x :: St) sf h cs sl :=
  o_e k fun p e s m args below meth c T locs cs' sl' B X eT t q => XS.irem X.here B.1 rfl (hb B.2.1 hd) rfl hy (by subst hp; rw [irem_eq_mod]; exact q)
theorem o_4w {x : Int32} (hp : pc + 1 = pc') (hd : decode M.b pc = .ok (.i2b, 1)) (k : o_3 K M Q pc' Ls (.int (x.toInt8.toInt32) :: St) sf h cs sl) : o_3 K M Q pc Ls (.int x :: St) sf h cs sl :=
  o_e k fun p e s m args below meth c T locs cs' sl' B X eT t q => XS.i2b X.here B.1 rfl (hb B.2.1 hd) rfl (by subst hp; exact q)
theorem o_3e {x : Int32} (hp : pc + 1 = pc') (hd : decode M.b pc = .ok (.i2c, 1)) (k : o_3 K M Q pc' Ls (.int (x.toUInt32.toUInt16.toUInt32.toInt32) :: St) sf h cs sl) : o_3 K M Q pc Ls (.int x :: St) sf h cs sl :=
  o_e k fun p e s m args below meth c T locs cs' sl' B X eT t q => XS.i2c X.here B.1 rfl (hb B.2.1 hd) rfl (by subst hp; exact q)
theorem o_0a {x : Value} (hp : pc + 1 = pc') (hd : decode M.b pc = .ok (.dup, 1)) (hc : x.category = 1) (k : o_3 K M Q pc' Ls (x :: x :: St) sf h cs sl) : o_3 K M Q pc Ls (x :: St) sf h cs sl :=
  o_e k fun p e s m args below meth c T locs cs' sl' B X eT t q => XS.dup X.here B.1 rfl (hb B.2.1 hd) rfl hc (by subst hp; exact q)
theorem o_28 {x : Value} (hp : pc + 1 = pc') (hd : decode M.b pc = .ok (.pop, 1)) (hc : x.category = 1) (k : o_3 K M Q pc' Ls St sf h cs sl) : o_3 K M Q pc Ls (x :: St) sf h cs sl :=
  o_e k fun p e s m args below meth c T locs cs' sl' B X eT t q => XS.pop X.here B.1 rfl (hb B.2.1 hd) rfl hc (by subst hp; exact q)
theorem o_6f {x y : Value} (hp : pc + 1 = pc') (hd : decode M.b pc = .ok (.dup_x1, 1)) (hc : x.category = 1) (hc' : y.category = 1) (k : o_3 K M Q pc' Ls (x :: y :: x :: St) sf h cs sl) : o_3 K M Q pc Ls (x :: y :: St) sf h cs sl :=
  o_e k fun p e s m args below meth c T locs cs' sl' B X eT t q => XS.dupX1 X.here B.1 rfl (hb B.2.1 hd) rfl hc hc' (by subst hp; exact q)
theorem o_z {Ls : List Slot} {i : Nat} {v : Value} {o : Slot} (ho : One o) (hv : v.category = 1) (hold : Ls[i]? = some o) : storeLocals Ls.toArray i v = some (Ls.set i (.val v)).toArray := by
  rw [XS.store1 (o_3d hold) ho hv]; simp
theorem o_77 {o : Slot} {r : List Slot} {x : Int32} (hp : pc + 1 = pc') (hd : decode M.b pc = .ok (.istore_n 0, 1)) (ho : One o) (k : o_3 K M Q pc' (.val (.int x) :: r) St sf h cs sl) : o_3 K M Q pc (o :: r) (.int x :: St) sf h cs sl :=
  o_e k fun p e s m args below meth c T locs cs' sl' B X eT t q => XS.istoreN X.here B.1 rfl (hb B.2.1 hd) rfl (o_z (Ls := o :: r) (i := 0) ho rfl rfl) (by subst hp; exact q)
theorem o_4o {u0 o : Slot} {r : List Slot} {x : Int32} (hp : pc + 1 = pc') (hd : decode M.b pc = .ok (.istore_n 1, 1)) (ho : One o) (k : o_3 K M Q pc' (u0 :: .val (.int x) :: r) St sf h cs sl) : o_3 K M Q pc (u0 :: o :: r) (.int x :: St) sf h cs sl :=
  o_e k fun p e s m args below meth c T locs cs' sl' B X eT t q => XS.istoreN X.here B.1 rfl (hb B.2.1 hd) rfl (o_z (Ls := u0 :: o :: r) (i := 1) ho rfl rfl) (by subst hp; exact q)
theorem o_5n {u0 o : Slot} {r : List Slot} {x : Value} (hp : pc + 1 = pc') (hd : decode M.b pc = .ok (.astore_n 1, 1)) (ho : One o) (hv : x.isRef = true) (k : o_3 K M Q pc' (u0 :: .val x :: r) St sf h cs sl) : o_3 K M Q pc (u0 :: o :: r) (x :: St) sf h cs sl :=
  o_e k fun p e s m args below meth c T locs cs' sl' B X eT t q => XS.astoreN X.here B.1 rfl (hb B.2.1 hd) rfl hv (o_z (Ls := u0 :: o :: r) (i := 1) ho (by rcases ref_cases hv with rfl | ⟨_, rfl⟩ <;> rfl) rfl) (by subst hp; exact q)
theorem o_8x {u0 : Slot} {r : List Slot} {x : Int32} {cst : Int} {z : Int32} (hp : pc + 3 = pc') (hd : decode M.b pc = .ok (.iinc 1 cst, 3)) (hz : Int32.ofInt cst = z) (k : o_3 K M Q pc' (u0 :: .val (.int (x + z)) :: r) St sf h cs sl) : o_3 K M Q pc (u0 :: .val (.int x) :: r) St sf h cs sl :=
  o_e k fun p e s m args below meth c T locs cs' sl' B X eT t q => XS.iinc X.here B.1 rfl (hb B.2.1 hd) (x := x) (o_3d (L := u0 :: .val (.int x) :: r) (k := 1) rfl) (o_z (Ls := u0 :: .val (.int x) :: r) (i := 1) (One.val rfl) rfl rfl) (by subst hp hz; exact q)
theorem o_2s {u0 u1 o : Slot} {r : List Slot} {x : Int32} (hp : pc + 1 = pc') (hd : decode M.b pc = .ok (.istore_n 2, 1)) (ho : One o) (k : o_3 K M Q pc' (u0 :: u1 :: .val (.int x) :: r) St sf h cs sl) : o_3 K M Q pc (u0 :: u1 :: o :: r) (.int x :: St) sf h cs sl :=
  o_e k fun p e s m args below meth c T locs cs' sl' B X eT t q => XS.istoreN X.here B.1 rfl (hb B.2.1 hd) rfl (o_z (Ls := u0 :: u1 :: o :: r) (i := 2) ho rfl rfl) (by subst hp; exact q)
theorem o_23 {u0 u1 o : Slot} {r : List Slot} {x : Value} (hp : pc + 1 = pc') (hd : decode M.b pc = .ok (.astore_n 2, 1)) (ho : One o) (hv : x.isRef = true) (k : o_3 K M Q pc' (u0 :: u1 :: .val x :: r) St sf h cs sl) : o_3 K M Q pc (u0 :: u1 :: o :: r) (x :: St) sf h cs sl :=
  o_e k fun p e s m args below meth c T locs cs' sl' B X eT t q => XS.astoreN X.here B.1 rfl (hb B.2.1 hd) rfl hv (o_z (Ls := u0 :: u1 :: o :: r) (i := 2) ho (by rcases ref_cases hv with rfl | ⟨_, rfl⟩ <;> rfl) rfl) (by subst hp; exact q)
theorem o_4q {u0 u1 : Slot} {r : List Slot} {x : Int32} {cst : Int} {z : Int32} (hp : pc + 3 = pc') (hd : decode M.b pc = .ok (.iinc 2 cst, 3)) (hz : Int32.ofInt cst = z) (k : o_3 K M Q pc' (u0 :: u1 :: .val (.int (x + z)) :: r) St sf h cs sl) : o_3 K M Q pc (u0 :: u1 :: .val (.int x) :: r) St sf h cs sl :=
  o_e k fun p e s m args below meth c T locs cs' sl' B X eT t q => XS.iinc X.here B.1 rfl (hb B.2.1 hd) (x := x) (o_3d (L := u0 :: u1 :: .val (.int x) :: r) (k := 2) rfl) (o_z (Ls := u0 :: u1 :: .val (.int x) :: r) (i := 2) (One.val rfl) rfl rfl) (by subst hp hz; exact q)
theorem o_1i {u0 u1 u2 o : Slot} {r : List Slot} {x : Int32} (hp : pc + 1 = pc') (hd : decode M.b pc = .ok (.istore_n 3, 1)) (ho : One o) (k : o_3 K M Q pc' (u0 :: u1 :: u2 :: .val (.int x) :: r) St sf h cs sl) : o_3 K M Q pc (u0 :: u1 :: u2 :: o :: r) (.int x :: St) sf h cs sl :=
  o_e k fun p e s m args below meth c T locs cs' sl' B X eT t q => XS.istoreN X.here B.1 rfl (hb B.2.1 hd) rfl (o_z (Ls := u0 :: u1 :: u2 :: o :: r) (i := 3) ho rfl rfl) (by subst hp; exact q)
theorem o_2t {u0 u1 u2 o : Slot} {r : List Slot} {x : Value} (hp : pc + 1 = pc') (hd : decode M.b pc = .ok (.astore_n 3, 1)) (ho : One o) (hv : x.isRef = true) (k : o_3 K M Q pc' (u0 :: u1 :: u2 :: .val x :: r) St sf h cs sl) : o_3 K M Q pc (u0 :: u1 :: u2 :: o :: r) (x :: St) sf h cs sl :=
  o_e k fun p e s m args below meth c T locs cs' sl' B X eT t q => XS.astoreN X.here B.1 rfl (hb B.2.1 hd) rfl hv (o_z (Ls := u0 :: u1 :: u2 :: o :: r) (i := 3) ho (by rcases ref_cases hv with rfl | ⟨_, rfl⟩ <;> rfl) rfl) (by subst hp; exact q)
theorem o_5e {u0 u1 u2 : Slot} {r : List Slot} {x : Int32} {cst : Int} {z : Int32} (hp : pc + 3 = pc') (hd : decode M.b pc = .ok (.iinc 3 cst, 3)) (hz : Int32.ofInt cst = z) (k : o_3 K M Q pc' (u0 :: u1 :: u2 :: .val (.int (x + z)) :: r) St sf h cs sl) : o_3 K M Q pc (u0 :: u1 :: u2 :: .val (.int x) :: r) St sf h cs sl :=
  o_e k fun p e s m args below meth c T locs cs' sl' B X eT t q => XS.iinc X.here B.1 rfl (hb B.2.1 hd) (x := x) (o_3d (L := u0 :: u1 :: u2 :: .val (.int x) :: r) (k := 3) rfl) (o_z (Ls := u0 :: u1 :: u2 :: .val (.int x) :: r) (i := 3) (One.val rfl) rfl rfl) (by subst hp hz; exact q)
theorem o_1j {u0 u1 u2 u3 o : Slot} {r : List Slot} {x : Int32} (hp : pc + 2 = pc') (hd : decode M.b pc = .ok (.istore 4, 2)) (ho : One o) (k : o_3 K M Q pc' (u0 :: u1 :: u2 :: u3 :: .val (.int x) :: r) St sf h cs sl) : o_3 K M Q pc (u0 :: u1 :: u2 :: u3 :: o :: r) (.int x :: St) sf h cs sl :=
  o_e k fun p e s m args below meth c T locs cs' sl' B X eT t q => XS.istore X.here B.1 rfl (hb B.2.1 hd) rfl (o_z (Ls := u0 :: u1 :: u2 :: u3 :: o :: r) (i := 4) ho rfl rfl) (by subst hp; exact q)
theorem o_40 {u0 u1 u2 u3 o : Slot} {r : List Slot} {x : Value} (hp : pc + 2 = pc') (hd : decode M.b pc = .ok (.astore 4, 2)) (ho : One o) (hv : x.isRef = true) (k : o_3 K M Q pc' (u0 :: u1 :: u2 :: u3 :: .val x :: r) St sf h cs sl) : o_3 K M Q pc (u0 :: u1 :: u2 :: u3 :: o :: r) (x :: St) sf h cs sl :=
  o_e k fun p e s m args below meth c T locs cs' sl' B X eT t q => XS.astore X.here B.1 rfl (hb B.2.1 hd) rfl hv (o_z (Ls := u0 :: u1 :: u2 :: u3 :: o :: r) (i := 4) ho (by rcases ref_cases hv with rfl | ⟨_, rfl⟩ <;> rfl) rfl) (by subst hp; exact q)
theorem o_1a {u0 u1 u2 u3 u4 o : Slot} {r : List Slot} {x : Int32} (hp : pc + 2 = pc') (hd : decode M.b pc = .ok (.istore 5, 2)) (ho : One o) (k : o_3 K M Q pc' (u0 :: u1 :: u2 :: u3 :: u4 :: .val (.int x) :: r) St sf h cs sl) : o_3 K M Q pc (u0 :: u1 :: u2 :: u3 :: u4 :: o :: r) (.int x :: St) sf h cs sl :=
  o_e k fun p e s m args below meth c T locs cs' sl' B X eT t q => XS.istore X.here B.1 rfl (hb B.2.1 hd) rfl (o_z (Ls := u0 :: u1 :: u2 :: u3 :: u4 :: o :: r) (i := 5) ho rfl rfl) (by subst hp; exact q)
theorem o_2z {u0 u1 u2 u3 u4 o : Slot} {r : List Slot} {x : Value} (hp : pc + 2 = pc') (hd : decode M.b pc = .ok (.astore 5, 2)) (ho : One o) (hv : x.isRef = true) (k : o_3 K M Q pc' (u0 :: u1 :: u2 :: u3 :: u4 :: .val x :: r) St sf h cs sl) : o_3 K M Q pc (u0 :: u1 :: u2 :: u3 :: u4 :: o :: r) (x :: St) sf h cs sl :=
  o_e k fun p e s m args below meth c T locs cs' sl' B X eT t q => XS.astore X.here B.1 rfl (hb B.2.1 hd) rfl hv (o_z (Ls := u0 :: u1 :: u2 :: u3 :: u4 :: o :: r) (i := 5) ho (by rcases ref_cases hv with rfl | ⟨_, rfl⟩ <;> rfl) rfl) (by subst hp; exact q)
theorem o_4r {u0 u1 u2 u3 u4 : Slot} {r : List Slot} {x : Int32} {cst : Int} {z : Int32} (hp : pc + 3 = pc') (hd : decode M.b pc = .ok (.iinc 5 cst, 3)) (hz : Int32.ofInt cst = z) (k : o_3 K M Q pc' (u0 :: u1 :: u2 :: u3 :: u4 :: .val (.int (x + z)) :: r) St sf h cs sl) : o_3 K M Q pc (u0 :: u1 :: u2 :: u3 :: u4 :: .val (.int x) :: r) St sf h cs sl :=
  o_e k fun p e s m args below meth c T locs cs' sl' B X eT t q => XS.iinc X.here B.1 rfl (hb B.2.1 hd) (x := x) (o_3d (L := u0 :: u1 :: u2 :: u3 :: u4 :: .val (.int x) :: r) (k := 5) rfl) (o_z (Ls := u0 :: u1 :: u2 :: u3 :: u4 :: .val (.int x) :: r) (i := 5) (One.val rfl) rfl rfl) (by subst hp hz; exact q)
theorem o_1w {u0 u1 u2 u3 u4 u5 o : Slot} {r : List Slot} {x : Int32} (hp : pc + 2 = pc') (hd : decode M.b pc = .ok (.istore 6, 2)) (ho : One o) (k : o_3 K M Q pc' (u0 :: u1 :: u2 :: u3 :: u4 :: u5 :: .val (.int x) :: r) St sf h cs sl) : o_3 K M Q pc (u0 :: u1 :: u2 :: u3 :: u4 :: u5 :: o :: r) (.int x :: St) sf h cs sl :=
  o_e k fun p e s m args below meth c T locs cs' sl' B X eT t q => XS.istore X.here B.1 rfl (hb B.2.1 hd) rfl (o_z (Ls := u0 :: u1 :: u2 :: u3 :: u4 :: u5 :: o :: r) (i := 6) ho rfl rfl) (by subst hp; exact q)
theorem o_3k {u0 u1 u2 u3 u4 u5 o : Slot} {r : List Slot} {x : Value} (hp : pc + 2 = pc') (hd : decode M.b pc = .ok (.astore 6, 2)) (ho : One o) (hv : x.isRef = true) (k : o_3 K M Q pc' (u0 :: u1 :: u2 :: u3 :: u4 :: u5 :: .val x :: r) St sf h cs sl) : o_3 K M Q pc (u0 :: u1 :: u2 :: u3 :: u4 :: u5 :: o :: r) (x :: St) sf h cs sl :=
  o_e k fun p e s m args below meth c T locs cs' sl' B X eT t q => XS.astore X.here B.1 rfl (hb B.2.1 hd) rfl hv (o_z (Ls := u0 :: u1 :: u2 :: u3 :: u4 :: u5 :: o :: r) (i := 6) ho (by rcases ref_cases hv with rfl | ⟨_, rfl⟩ <;> rfl) rfl) (by subst hp; exact q)
theorem o_3l {u0 u1 u2 u3 u4 u5 u6 o : Slot} {r : List Slot} {x : Int32} (hp : pc + 2 = pc') (hd : decode M.b pc = .ok (.istore 7, 2)) (ho : One o) (k : o_3 K M Q pc' (u0 :: u1 :: u2 :: u3 :: u4 :: u5 :: u6 :: .val (.int x) :: r) St sf h cs sl) : o_3 K M Q pc (u0 :: u1 :: u2 :: u3 :: u4 :: u5 :: u6 :: o :: r) (.int x :: St) sf h cs sl :=
  o_e k fun p e s m args below meth c T locs cs' sl' B X eT t q => XS.istore X.here B.1 rfl (hb B.2.1 hd) rfl (o_z (Ls := u0 :: u1 :: u2 :: u3 :: u4 :: u5 :: u6 :: o :: r) (i := 7) ho rfl rfl) (by subst hp; exact q)
theorem o_41 {u0 u1 u2 u3 u4 u5 u6 o : Slot} {r : List Slot} {x : Value} (hp : pc + 2 = pc') (hd : decode M.b pc = .ok (.astore 7, 2)) (ho : One o) (hv : x.isRef = true) (k : o_3 K M Q pc' (u0 :: u1 :: u2 :: u3 :: u4 :: u5 :: u6 :: .val x :: r) St sf h cs sl) : o_3 K M Q pc (u0 :: u1 :: u2 :: u3 :: u4 :: u5 :: u6 :: o :: r) (x :: St) sf h cs sl :=
  o_e k fun p e s m args below meth c T locs cs' sl' B X eT t q => XS.astore X.here B.1 rfl (hb B.2.1 hd) rfl hv (o_z (Ls := u0 :: u1 :: u2 :: u3 :: u4 :: u5 :: u6 :: o :: r) (i := 7) ho (by rcases ref_cases hv with rfl | ⟨_, rfl⟩ <;> rfl) rfl) (by subst hp; exact q)
theorem o_5q {u0 u1 u2 u3 u4 u5 u6 u7 o : Slot} {r : List Slot} {x : Int32} (hp : pc + 2 = pc') (hd : decode M.b pc = .ok (.istore 8, 2)) (ho : One o) (k : o_3 K M Q pc' (u0 :: u1 :: u2 :: u3 :: u4 :: u5 :: u6 :: u7 :: .val (.int x) :: r) St sf h cs sl) : o_3 K M Q pc (u0 :: u1 :: u2 :: u3 :: u4 :: u5 :: u6 :: u7 :: o :: r) (.int x :: St) sf h cs sl :=
  o_e k fun p e s m args below meth c T locs cs' sl' B X eT t q => XS.istore X.here B.1 rfl (hb B.2.1 hd) rfl (o_z (Ls := u0 :: u1 :: u2 :: u3 :: u4 :: u5 :: u6 :: u7 :: o :: r) (i := 8) ho rfl rfl) (by subst hp; exact q)
theorem o_3m {u0 u1 u2 u3 u4 u5 u6 u7 o : Slot} {r : List Slot} {x : Value} (hp : pc + 2 = pc') (hd : decode M.b pc = .ok (.astore 8, 2)) (ho : One o) (hv : x.isRef = true) (k : o_3 K M Q pc' (u0 :: u1 :: u2 :: u3 :: u4 :: u5 :: u6 :: u7 :: .val x :: r) St sf h cs sl) : o_3 K M Q pc (u0 :: u1 :: u2 :: u3 :: u4 :: u5 :: u6 :: u7 :: o :: r) (x :: St) sf h cs sl :=
  o_e k fun p e s m args below meth c T locs cs' sl' B X eT t q => XS.astore X.here B.1 rfl (hb B.2.1 hd) rfl hv (o_z (Ls := u0 :: u1 :: u2 :: u3 :: u4 :: u5 :: u6 :: u7 :: o :: r) (i := 8) ho (by rcases ref_cases hv with rfl | ⟨_, rfl⟩ <;> rfl) rfl) (by subst hp; exact q)
theorem o_7r {u0 u1 u2 u3 u4 u5 u6 u7 u8 o : Slot} {r : List Slot} {x : Int32} (hp : pc + 2 = pc') (hd : decode M.b pc = .ok (.istore 9, 2)) (ho : One o) (k : o_3 K M Q pc' (u0 :: u1 :: u2 :: u3 :: u4 :: u5 :: u6 :: u7 :: u8 :: .val (.int x) :: r) St sf h cs sl) : o_3 K M Q pc (u0 :: u1 :: u2 :: u3 :: u4 :: u5 :: u6 :: u7 :: u8 :: o :: r) (.int x :: St) sf h cs sl :=
  o_e k fun p e s m args below meth c T locs cs' sl' B X eT t q => XS.istore X.here B.1 rfl (hb B.2.1 hd) rfl (o_z (Ls := u0 :: u1 :: u2 :: u3 :: u4 :: u5 :: u6 :: u7 :: u8 :: o :: r) (i := 9) ho rfl rfl) (by subst hp; exact q)
theorem o_7s {u0 u1 u2 u3 u4 u5 u6 u7 u8 o : Slot} {r : List Slot} {x : Value} (hp : pc + 2 = pc') (hd : decode M.b pc = .ok (.astore 9, 2)) (ho : One o) (hv : x.isRef = true) (k : o_3 K M Q pc' (u0 :: u1 :: u2 :: u3 :: u4 :: u5 :: u6 :: u7 :: u8 :: .val x :: r) St sf h cs sl) : o_3 K M Q pc (u0 :: u1 :: u2 :: u3 :: u4 :: u5 :: u6 :: u7 :: u8 :: o :: r) (x :: St) sf h cs sl :=
  o_e k fun p e s m args below meth c T locs cs' sl' B X eT t q => XS.astore X.here B.1 rfl (hb B.2.1 hd) rfl hv (o_z (Ls := u0 :: u1 :: u2 :: u3 :: u4 :: u5 :: u6 :: u7 :: u8 :: o :: r) (i := 9) ho (by rcases ref_cases hv with rfl | ⟨_, rfl⟩ <;> rfl) rfl) (by subst hp; exact q)
theorem o_78 {u0 u1 u2 u3 u4 u5 u6 u7 u8 u9 o : Slot} {r : List Slot} {x : Value} (hp : pc + 2 = pc') (hd : decode M.b pc = .ok (.astore 10, 2)) (ho : One o) (hv : x.isRef = true) (k : o_3 K M Q pc' (u0 :: u1 :: u2 :: u3 :: u4 :: u5 :: u6 :: u7 :: u8 :: u9 :: .val x :: r) St sf h cs sl) : o_3 K M Q pc (u0 :: u1 :: u2 :: u3 :: u4 :: u5 :: u6 :: u7 :: u8 :: u9 :: o :: r) (x :: St) sf h cs sl :=
  o_e k fun p e s m args below meth c T locs cs' sl' B X eT t q => XS.astore X.here B.1 rfl (hb B.2.1 hd) rfl hv (o_z (Ls := u0 :: u1 :: u2 :: u3 :: u4 :: u5 :: u6 :: u7 :: u8 :: u9 :: o :: r) (i := 10) ho (by rcases ref_cases hv with rfl | ⟨_, rfl⟩ <;> rfl) rfl) (by subst hp; exact q)
theorem o_79 {u0 u1 u2 u3 u4 u5 u6 u7 u8 u9 u10 o : Slot} {r : List Slot} {x : Value} (hp : pc + 2 = pc') (hd : decode M.b pc = .ok (.astore 11, 2)) (ho : One o) (hv : x.isRef = true) (k : o_3 K M Q pc' (u0 :: u1 :: u2 :: u3 :: u4 :: u5 :: u6 :: u7 :: u8 :: u9 :: u10 :: .val x :: r) St sf h cs sl) : o_3 K M Q pc (u0 :: u1 :: u2 :: u3 :: u4 :: u5 :: u6 :: u7 :: u8 :: u9 :: u10 :: o :: r) (x :: St) sf h cs sl :=
  o_e k fun p e s m args below meth c T locs cs' sl' B X eT t q => XS.astore X.here B.1 rfl (hb B.2.1 hd) rfl hv (o_z (Ls := u0 :: u1 :: u2 :: u3 :: u4 :: u5 :: u6 :: u7 :: u8 :: u9 :: u10 :: o :: r) (i := 11) ho (by rcases ref_cases hv with rfl | ⟨_, rfl⟩ <;> rfl) rfl) (by subst hp; exact q)
theorem o_7a {u0 u1 u2 u3 u4 u5 u6 u7 u8 u9 u10 u11 o : Slot} {r : List Slot} {x : Int32} (hp : pc + 2 = pc') (hd : decode M.b pc = .ok (.istore 12, 2)) (ho : One o) (k : o_3 K M Q pc' (u0 :: u1 :: u2 :: u3 :: u4 :: u5 :: u6 :: u7 :: u8 :: u9 :: u10 :: u11 :: .val (.int x) :: r) St sf h cs sl) : o_3 K M Q pc (u0 :: u1 :: u2 :: u3 :: u4 :: u5 :: u6 :: u7 :: u8 :: u9 :: u10 :: u11 :: o :: r) (.int x :: St) sf h cs sl :=
  o_e k fun p e s m args below meth c T locs cs' sl' B X eT t q => XS.istore X.here B.1 rfl (hb B.2.1 hd) rfl (o_z (Ls := u0 :: u1 :: u2 :: u3 :: u4 :: u5 :: u6 :: u7 :: u8 :: u9 :: u10 :: u11 :: o :: r) (i := 12) ho rfl rfl) (by subst hp; exact q)
theorem o_7b {u0 u1 u2 u3 u4 u5 u6 u7 u8 u9 u10 u11 u12 o : Slot} {r : List Slot} {x : Int32} (hp : pc + 2 = pc') (hd : decode M.b pc = .ok (.istore 13, 2)) (ho : One o) (k : o_3 K M Q pc' (u0 :: u1 :: u2 :: u3 :: u4 :: u5 :: u6 :: u7 :: u8 :: u9 :: u10 :: u11 :: u12 :: .val (.int x) :: r) St sf h cs sl) : o_3 K M Q pc (u0 :: u1 :: u2 :: u3 :: u4 :: u5 :: u6 :: u7 :: u8 :: u9 :: u10 :: u11 :: u12 :: o :: r) (.int x :: St) sf h cs sl :=
  o_e k fun p e s m args below meth c T locs cs' sl' B X eT t q => XS.istore X.here B.1 rfl (hb B.2.1 hd) rfl (o_z (Ls := u0 :: u1 :: u2 :: u3 :: u4 :: u5 :: u6 :: u7 :: u8 :: u9 :: u10 :: u11 :: u12 :: o :: r) (i := 13) ho rfl rfl) (by subst hp; exact q)
theorem o_7c {u0 u1 u2 u3 u4 u5 u6 u7 u8 u9 u10 u11 u12 u13 o : Slot} {r : List Slot} {x : Int32} (hp : pc + 2 = pc') (hd : decode M.b pc = .ok (.istore 14, 2)) (ho : One o) (k : o_3 K M Q pc' (u0 :: u1 :: u2 :: u3 :: u4 :: u5 :: u6 :: u7 :: u8 :: u9 :: u10 :: u11 :: u12 :: u13 :: .val (.int x) :: r) St sf h cs sl) : o_3 K M Q pc (u0 :: u1 :: u2 :: u3 :: u4 :: u5 :: u6 :: u7 :: u8 :: u9 :: u10 :: u11 :: u12 :: u13 :: o :: r) (.int x :: St) sf h cs sl :=
  o_e k fun p e s m args below meth c T locs cs' sl' B X eT t q => XS.istore X.here B.1 rfl (hb B.2.1 hd) rfl (o_z (Ls := u0 :: u1 :: u2 :: u3 :: u4 :: u5 :: u6 :: u7 :: u8 :: u9 :: u10 :: u11 :: u12 :: u13 :: o :: r) (i := 14) ho rfl rfl) (by subst hp; exact q)
theorem o_7d {u0 u1 u2 u3 u4 u5 u6 u7 u8 u9 u10 u11 u12 u13 u14 o : Slot} {r : List Slot} {x : Int32} (hp : pc + 2 = pc') (hd : decode M.b pc = .ok (.istore 15, 2)) (ho : One o) (k : o_3 K M Q pc' (u0 :: u1 :: u2 :: u3 :: u4 :: u5 :: u6 :: u7 :: u8 :: u9 :: u10 :: u11 :: u12 :: u13 :: u14 :: .val (.int x) :: r) St sf h cs sl) : o_3 K M Q pc (u0 :: u1 :: u2 :: u3 :: u4 :: u5 :: u6 :: u7 :: u8 :: u9 :: u10 :: u11 :: u12 :: u13 :: u14 :: o :: r) (.int x :: St) sf h cs sl :=
  o_e k fun p e s m args below meth c T locs cs' sl' B X eT t q => XS.istore X.here B.1 rfl (hb B.2.1 hd) rfl (o_z (Ls := u0 :: u1 :: u2 :: u3 :: u4 :: u5 :: u6 :: u7 :: u8 :: u9 :: u10 :: u11 :: u12 :: u13 :: u14 :: o :: r) (i := 15) ho rfl rfl) (by subst hp; exact q)
theorem o_7e {u0 u1 u2 u3 u4 u5 u6 u7 u8 u9 u10 u11 u12 u13 u14 u15 o : Slot} {r : List Slot} {x : Int32} (hp : pc + 2 = pc') (hd : decode M.b pc = .ok (.istore 16, 2)) (ho : One o) (k : o_3 K M Q pc' (u0 :: u1 :: u2 :: u3 :: u4 :: u5 :: u6 :: u7 :: u8 :: u9 :: u10 :: u11 :: u12 :: u13 :: u14 :: u15 :: .val (.int x) :: r) St sf h cs sl) : o_3 K M Q pc (u0 :: u1 :: u2 :: u3 :: u4 :: u5 :: u6 :: u7 :: u8 :: u9 :: u10 :: u11 :: u12 :: u13 :: u14 :: u15 :: o :: r) (.int x :: St) sf h cs sl :=
  o_e k fun p e s m args below meth c T locs cs' sl' B X eT t q => XS.istore X.here B.1 rfl (hb B.2.1 hd) rfl (o_z (Ls := u0 :: u1 :: u2 :: u3 :: u4 :: u5 :: u6 :: u7 :: u8 :: u9 :: u10 :: u11 :: u12 :: u13 :: u14 :: u15 :: o :: r) (i := 16) ho rfl rfl) (by subst hp; exact q)
theorem o_7f {u0 u1 u2 u3 u4 u5 u6 u7 u8 u9 u10 u11 u12 u13 u14 u15 u16 o : Slot} {r : List Slot} {x : Value} (hp : pc + 2 = pc') (hd : decode M.b pc = .ok (.astore 17, 2)) (ho : One o) (hv : x.isRef = true) (k : o_3 K M Q pc' (u0 :: u1 :: u2 :: u3 :: u4 :: u5 :: u6 :: u7 :: u8 :: u9 :: u10 :: u11 :: u12 :: u13 :: u14 :: u15 :: u16 :: .val x :: r) St sf h cs sl) : o_3 K M Q pc (u0 :: u1 :: u2 :: u3 :: u4 :: u5 :: u6 :: u7 :: u8 :: u9 :: u10 :: u11 :: u12 :: u13 :: u14 :: u15 :: u16 :: o :: r) (x :: St) sf h cs sl :=
  o_e k fun p e s m args below meth c T locs cs' sl' B X eT t q => XS.astore X.here B.1 rfl (hb B.2.1 hd) rfl hv (o_z (Ls := u0 :: u1 :: u2 :: u3 :: u4 :: u5 :: u6 :: u7 :: u8 :: u9 :: u10 :: u11 :: u12 :: u13 :: u14 :: u15 :: u16 :: o :: r) (i := 17) ho (by rcases ref_cases hv with rfl | ⟨_, rfl⟩ <;> rfl) rfl) (by subst hp; exact q)
theorem o_7g {u0 u1 u2 u3 u4 u5 u6 u7 u8 u9 u10 u11 u12 u13 u14 u15 u16 u17 o : Slot} {r : List Slot} {x : Value} (hp : pc + 2 = pc') (hd : decode M.b pc = .ok (.astore 18, 2)) (ho : One o) (hv : x.isRef = true) (k : o_3 K M Q pc' (u0 :: u1 :: u2 :: u3 :: u4 :: u5 :: u6 :: u7 :: u8 :: u9 :: u10 :: u11 :: u12 :: u13 :: u14 :: u15 :: u16 :: u17 :: .val x :: r) St sf h cs sl) : o_3 K M Q pc (u0 :: u1 :: u2 :: u3 :: u4 :: u5 :: u6 :: u7 :: u8 :: u9 :: u10 :: u11 :: u12 :: u13 :: u14 :: u15 :: u16 :: u17 :: o :: r) (x :: St) sf h cs sl :=
  o_e k fun p e s m args below meth c T locs cs' sl' B X eT t q => XS.astore X.here B.1 rfl (hb B.2.1 hd) rfl hv (o_z (Ls := u0 :: u1 :: u2 :: u3 :: u4 :: u5 :: u6 :: u7 :: u8 :: u9 :: u10 :: u11 :: u12 :: u13 :: u14 :: u15 :: u16 :: u17 :: o :: r) (i := 18) ho (by rcases ref_cases hv with rfl | ⟨_, rfl⟩ <;> rfl) rfl) (by subst hp; exact q)
theorem o_7h {u0 u1 u2 u3 u4 u5 u6 u7 u8 u9 u10 u11 u12 u13 u14 u15 u16 u17 u18 o : Slot} {r : List Slot} {x : Value} (hp : pc + 2 = pc') (hd : decode M.b pc = .ok (.astore 19, 2)) (ho : One o) (hv : x.isRef = true) (k : o_3 K M Q pc' (u0 :: u1 :: u2 :: u3 :: u4 :: u5 :: u6 :: u7 :: u8 :: u9 :: u10 :: u11 :: u12 :: u13 :: u14 :: u15 :: u16 :: u17 :: u18 :: .val x :: r) St sf h cs sl) : o_3 K M Q pc (u0 :: u1 :: u2 :: u3 :: u4 :: u5 :: u6 :: u7 :: u8 :: u9 :: u10 :: u11 :: u12 :: u13 :: u14 :: u15 :: u16 :: u17 :: u18 :: o :: r) (x :: St) sf h cs sl :=
  o_e k fun p e s m args below meth c T locs cs' sl' B X eT t q => XS.astore X.here B.1 rfl (hb B.2.1 hd) rfl hv (o_z (Ls := u0 :: u1 :: u2 :: u3 :: u4 :: u5 :: u6 :: u7 :: u8 :: u9 :: u10 :: u11 :: u12 :: u13 :: u14 :: u15 :: u16 :: u17 :: u18 :: o :: r) (i := 19) ho (by rcases ref_cases hv with rfl | ⟨_, rfl⟩ <;> rfl) rfl) (by subst hp; exact q)
theorem o_7i {u0 u1 u2 u3 u4 u5 u6 u7 u8 u9 u10 u11 u12 u13 u14 u15 u16 u17 u18 u19 o : Slot} {r : List Slot} {x : Value} (hp : pc + 2 = pc') (hd : decode M.b pc = .ok (.astore 20, 2)) (ho : One o) (hv : x.isRef = true) (k : o_3 K M Q pc' (u0 :: u1 :: u2 :: u3 :: u4 :: u5 :: u6 :: u7 :: u8 :: u9 :: u10 :: u11 :: u12 :: u13 :: u14 :: u15 :: u16 :: u17 :: u18 :: u19 :: .val x :: r) St sf h cs sl) : o_3 K M Q pc (u0 :: u1 :: u2 :: u3 :: u4 :: u5 :: u6 :: u7 :: u8 :: u9 :: u10 :: u11 :: u12 :: u13 :: u14 :: u15 :: u16 :: u17 :: u18 :: u19 :: o :: r) (x :: St) sf h cs sl :=
  o_e k fun p e s m args below meth c T locs cs' sl' B X eT t q => XS.astore X.here B.1 rfl (hb B.2.1 hd) rfl hv (o_z (Ls := u0 :: u1 :: u2 :: u3 :: u4 :: u5 :: u6 :: u7 :: u8 :: u9 :: u10 :: u11 :: u12 :: u13 :: u14 :: u15 :: u16 :: u17 :: u18 :: u19 :: o :: r) (i := 20) ho (by rcases ref_cases hv with rfl | ⟨_, rfl⟩ <;> rfl) rfl) (by subst hp; exact q)
theorem o_7j {u0 u1 u2 u3 u4 u5 u6 u7 u8 u9 u10 u11 u12 u13 u14 u15 u16 u17 u18 u19 u20 o : Slot} {r : List Slot} {x : Value} (hp : pc + 2 = pc') (hd : decode M.b pc = .ok (.astore 21, 2)) (ho : One o) (hv : x.isRef = true) (k : o_3 K M Q pc' (u0 :: u1 :: u2 :: u3 :: u4 :: u5 :: u6 :: u7 :: u8 :: u9 :: u10 :: u11 :: u12 :: u13 :: u14 :: u15 :: u16 :: u17 :: u18 :: u19 :: u20 :: .val x :: r) St sf h cs sl) : o_3 K M Q pc (u0 :: u1 :: u2 :: u3 :: u4 :: u5 :: u6 :: u7 :: u8 :: u9 :: u10 :: u11 :: u12 :: u13 :: u14 :: u15 :: u16 :: u17 :: u18 :: u19 :: u20 :: o :: r) (x :: St) sf h cs sl :=
  o_e k fun p e s m args below meth c T locs cs' sl' B X eT t q => XS.astore X.here B.1 rfl (hb B.2.1 hd) rfl hv (o_z (Ls := u0 :: u1 :: u2 :: u3 :: u4 :: u5 :: u6 :: u7 :: u8 :: u9 :: u10 :: u11 :: u12 :: u13 :: u14 :: u15 :: u16 :: u17 :: u18 :: u19 :: u20 :: o :: r) (i := 21) ho (by rcases ref_cases hv with rfl | ⟨_, rfl⟩ <;> rfl) rfl) (by subst hp; exact q)
theorem o_7k {u0 u1 u2 u3 u4 u5 u6 u7 u8 u9 u10 u11 u12 u13 u14 u15 u16 u17 u18 u19 u20 u21 o : Slot} {r : List Slot} {x : Int32} (hp : pc + 2 = pc') (hd : decode M.b pc = .ok (.istore 22, 2)) (ho : One o) (k : o_3 K M Q pc' (u0 :: u1 :: u2 :: u3 :: u4 :: u5 :: u6 :: u7 :: u8 :: u9 :: u10 :: u11 :: u12 :: u13 :: u14 :: u15 :: u16 :: u17 :: u18 :: u19 :: u20 :: u21 :: .val (.int x) :: r) St sf h cs sl) : o_3 K M Q pc (u0 :: u1 :: u2 :: u3 :: u4 :: u5 :: u6 :: u7 :: u8 :: u9 :: u10 :: u11 :: u12 :: u13 :: u14 :: u15 :: u16 :: u17 :: u18 :: u19 :: u20 :: u21 :: o :: r) (.int x :: St) sf h cs sl :=
  o_e k fun p e s m args below meth c T locs cs' sl' B X eT t q => XS.istore X.here B.1 rfl (hb B.2.1 hd) rfl (o_z (Ls := u0 :: u1 :: u2 :: u3 :: u4 :: u5 :: u6 :: u7 :: u8 :: u9 :: u10 :: u11 :: u12 :: u13 :: u14 :: u15 :: u16 :: u17 :: u18 :: u19 :: u20 :: u21 :: o :: r) (i := 22) ho rfl rfl) (by subst hp; exact q)
theorem o_58 {u0 u1 u2 u3 u4 u5 u6 u7 u8 u9 u10 u11 u12 u13 u14 u15 u16 u17 u18 u19 u20 u21 : Slot} {r : List Slot} {x : Int32} {cst : Int} {z : Int32} (hp : pc + 3 = pc') (hd : decode M.b pc = .ok (.iinc 22 cst, 3)) (hz : Int32.ofInt cst = z) (k : o_3 K M Q pc' (u0 :: u1 :: u2 :: u3 :: u4 :: u5 :: u6 :: u7 :: u8 :: u9 :: u10 :: u11 :: u12 :: u13 :: u14 :: u15 :: u16 :: u17 :: u18 :: u19 :: u20 :: u21 :: .val (.int (x + z)) :: r) St sf h cs sl) : o_3 K M Q pc (u0 :: u1 :: u2 :: u3 :: u4 :: u5 :: u6 :: u7 :: u8 :: u9 :: u10 :: u11 :: u12 :: u13 :: u14 :: u15 :: u16 :: u17 :: u18 :: u19 :: u20 :: u21 :: .val (.int x) :: r) St sf h cs sl :=
  o_e k fun p e s m args below meth c T locs cs' sl' B X eT t q => XS.iinc X.here B.1 rfl (hb B.2.1 hd) (x := x) (o_3d (L := u0 :: u1 :: u2 :: u3 :: u4 :: u5 :: u6 :: u7 :: u8 :: u9 :: u10 :: u11 :: u12 :: u13 :: u14 :: u15 :: u16 :: u17 :: u18 :: u19 :: u20 :: u21 :: .val (.int x) :: r) (k := 22) rfl) (o_z (Ls := u0 :: u1 :: u2 :: u3 :: u4 :: u5 :: u6 :: u7 :: u8 :: u9 :: u10 :: u11 :: u12 :: u13 :: u14 :: u15 :: u16 :: u17 :: u18 :: u19 :: u20 :: u21 :: .val (.int x) :: r) (i := 22) (One.val rfl) rfl rfl) (by subst hp hz; exact q)
theorem o_7l {u0 u1 u2 u3 u4 u5 u6 u7 u8 u9 u10 u11 u12 u13 u14 u15 u16 u17 u18 u19 u20 u21 u22 o : Slot} {r : List Slot} {x : Value} (hp : pc + 2 = pc') (hd : decode M.b pc = .ok (.astore 23, 2)) (ho : One o) (hv : x.isRef = true) (k : o_3 K M Q pc' (u0 :: u1 :: u2 :: u3 :: u4 :: u5 :: u6 :: u7 :: u8 :: u9 :: u10 :: u11 :: u12 :: u13 :: u14 :: u15 :: u16 :: u17 :: u18 :: u19 :: u20 :: u21 :: u22 :: .val x :: r) St sf h cs sl) : o_3 K M Q pc (u0 :: u1 :: u2 :: u3 :: u4 :: u5 :: u6 :: u7 :: u8 :: u9 :: u10 :: u11 :: u12 :: u13 :: u14 :: u15 :: u16 :: u17 :: u18 :: u19 :: u20 :: u21 :: u22 :: o :: r) (x :: St) sf h cs sl :=
  o_e k fun p e s m args below meth c T locs cs' sl' B X eT t q => XS.astore X.here B.1 rfl (hb B.2.1 hd) rfl hv (o_z (Ls := u0 :: u1 :: u2 :: u3 :: u4 :: u5 :: u6 :: u7 :: u8 :: u9 :: u10 :: u11 :: u12 :: u13 :: u14 :: u15 :: u16 :: u17 :: u18 :: u19 :: u20 :: u21 :: u22 :: o :: r) (i := 23) ho (by rcases ref_cases hv with rfl | ⟨_, rfl⟩ <;> rfl) rfl) (by subst hp; exact q)
theorem o_3w {u0 u1 u2 u3 u4 u5 u6 u7 u8 u9 u10 u11 u12 u13 u14 u15 u16 u17 u18 u19 u20 u21 u22 u23 o : Slot} {r : List Slot} {x : Int32} (hp : pc + 2 = pc') (hd : decode M.b pc = .ok (.istore 24, 2)) (ho : One o) (k : o_3 K M Q pc' (u0 :: u1 :: u2 :: u3 :: u4 :: u5 :: u6 :: u7 :: u8 :: u9 :: u10 :: u11 :: u12 :: u13 :: u14 :: u15 :: u16 :: u17 :: u18 :: u19 :: u20 :: u21 :: u22 :: u23 :: .val (.int x) :: r) St sf h cs sl) : o_3 K M Q pc (u0 :: u1 :: u2 :: u3 :: u4 :: u5 :: u6 :: u7 :: u8 :: u9 :: u10 :: u11 :: u12 :: u13 :: u14 :: u15 :: u16 :: u17 :: u18 :: u19 :: u20 :: u21 :: u22 :: u23 :: o :: r) (.int x :: St) sf h cs sl :=
  o_e k fun p e s m args below meth c T locs cs' sl' B X eT t q => XS.istore X.here B.1 rfl (hb B.2.1 hd) rfl (o_z (Ls := u0 :: u1 :: u2 :: u3 :: u4 :: u5 :: u6 :: u7 :: u8 :: u9 :: u10 :: u11 :: u12 :: u13 :: u14 :: u15 :: u16 :: u17 :: u18 :: u19 :: u20 :: u21 :: u22 :: u23 :: o :: r) (i := 24) ho rfl rfl) (by subst hp; exact q)
theorem o_5o {u0 u1 u2 u3 u4 u5 u6 u7 u8 u9 u10 u11 u12 u13 u14 u15 u16 u17 u18 u19 u20 u21 u22 u23 u24 o : Slot} {r : List Slot} {x : Int32} (hp : pc + 2 = pc') (hd : decode M.b pc = .ok (.istore 25, 2)) (ho : One o) (k : o_3 K M Q pc' (u0 :: u1 :: u2 :: u3 :: u4 :: u5 :: u6 :: u7 :: u8 :: u9 :: u10 :: u11 :: u12 :: u13 :: u14 :: u15 :: u16 :: u17 :: u18 :: u19 :: u20 :: u21 :: u22 :: u23 :: u24 :: .val (.int x) :: r) St sf h cs sl) : o_3 K M Q pc (u0 :: u1 :: u2 :: u3 :: u4 :: u5 :: u6 :: u7 :: u8 :: u9 :: u10 :: u11 :: u12 :: u13 :: u14 :: u15 :: u16 :: u17 :: u18 :: u19 :: u20 :: u21 :: u22 :: u23 :: u24 :: o :: r) (.int x :: St) sf h cs sl :=
  o_e k fun p e s m args below meth c T locs cs' sl' B X eT t q => XS.istore X.here B.1 rfl (hb B.2.1 hd) rfl (o_z (Ls := u0 :: u1 :: u2 :: u3 :: u4 :: u5 :: u6 :: u7 :: u8 :: u9 :: u10 :: u11 :: u12 :: u13 :: u14 :: u15 :: u16 :: u17 :: u18 :: u19 :: u20 :: u21 :: u22 :: u23 :: u24 :: o :: r) (i := 25) ho rfl rfl) (by subst hp; exact q)
theorem o_o {o : Int} (hd : decode M.b pc = .ok (.goto o, 3)) (ho : 0 ≤ (pc : Int) + o) (hp : ((pc : Int) + o).toNat = pc') (k : o_3 K M Q pc' Ls St sf h cs sl) : o_3 K M Q pc Ls St sf h cs sl :=
  o_e k fun p e s m args below meth c T locs cs' sl' B X eT t q => XS.goto X.here B.1 rfl (pc0 := pc) rfl (hb B.2.1 hd) ho hp q
theorem o_5d {cd : ClassFile.Cond} {o : Int} {x : Int32} {pcT pcF : Nat} (hd : decode M.b pc = .ok (.ifCond cd o, 3)) (ho : 0 ≤ (pc : Int) + o) (hp : ((pc : Int) + o).toNat = pcT) (hp' : pc + 3 = pcF)
    (kT : ifCond.holds cd x = true → o_3 K M Q pcT Ls St sf h cs sl) (kF : ifCond.holds cd x = false → o_3 K M Q pcF Ls St sf h cs sl) : o_3 K M Q pc Ls (.int x :: St) sf h cs sl := by
  cases hc : ifCond.holds cd x
  · exact o_e (kF hc) fun p e s m args below meth c T locs cs' sl' B X eT t q => XS.ifNo X.here B.1 rfl (hb B.2.1 hd) rfl hc (by subst hp'; exact q)
  · exact o_e (kT hc) fun p e s m args below meth c T locs cs' sl' B X eT t q => XS.ifYes X.here B.1 rfl (pc0 := pc) rfl (hb B.2.1 hd) rfl hc ho hp q
theorem o_48 {cd : ClassFile.Cond} {o : Int} {x y : Int32} {pcT pcF : Nat} (hd : decode M.b pc = .ok (.if_icmp cd o, 3)) (ho : 0 ≤ (pc : Int) + o) (hp : ((pc : Int) + o).toNat = pcT) (hp' : pc + 3 = pcF)
    (kT : if_icmp.holds cd x y = true → o_3 K M Q pcT Ls St sf h cs sl) (kF : if_icmp.holds cd x y = false → o_3 K M Q pcF Ls St sf h cs sl) : o_3 K M Q pc Ls (.int y :: .int x :: St) sf h cs sl := by
  cases hc : if_icmp.holds cd x y
  · exact o_e (kF hc) fun p e s m args below meth c T locs cs' sl' B X eT t q => XS.icmpNo X.here B.1 rfl (hb B.2.1 hd) rfl hc (by subst hp'; exact q)
  · exact o_e (kT hc) fun p e s m args below meth c T locs cs' sl' B X eT t q => XS.icmpYes X.here B.1 rfl (pc0 := pc) rfl (hb B.2.1 hd) rfl hc ho hp q
theorem o_k {o : Int} {x : Int32} {pcT pcF : Nat} (hd : decode M.b pc = .ok (.ifCond .eq o, 3)) (ho : 0 ≤ (pc : Int) + o) (hp : ((pc : Int) + o).toNat = pcT) (hp' : pc + 3 = pcF) (kT : x = 0 → o_3 K M Q pcT Ls St sf h cs sl) (kF : ¬ x = 0 → o_3 K M Q pcF Ls St sf h cs sl) : o_3 K M Q pc Ls (.int x :: St) sf h cs sl := by
  refine o_5d hd ho hp hp' (fun c => ?_) (fun c => ?_)
  · rw [if0] at c; by_cases q : x = 0
    · exact kT q
    · have z := (feq q).1; rw [z] at c; cases c
  · rw [if0] at c; by_cases q : x = 0
    · have z := (teq q).1; rw [z] at c; cases c
    · exact kF q
theorem o_33 {o : Int} {x y : Int32} {pcT pcF : Nat} (hd : decode M.b pc = .ok (.if_icmp .eq o, 3)) (ho : 0 ≤ (pc : Int) + o) (hp : ((pc : Int) + o).toNat = pcT) (hp' : pc + 3 = pcF) (kT : x = y → o_3 K M Q pcT Ls St sf h cs sl) (kF : ¬ x = y → o_3 K M Q pcF Ls St sf h cs sl) : o_3 K M Q pc Ls (.int y :: .int x :: St) sf h cs sl := by
  refine o_48 hd ho hp hp' (fun c => ?_) (fun c => ?_)
  · by_cases q : x = y
    · exact kT q
    · have z := (feq q).1; rw [z] at c; cases c
  · by_cases q : x = y
    · have z := (teq q).1; rw [z] at c; cases c
    · exact kF q
theorem o_0k {o : Int} {x : Int32} {pcT pcF : Nat} (hd : decode M.b pc = .ok (.ifCond .ne o, 3)) (ho : 0 ≤ (pc : Int) + o) (hp : ((pc : Int) + o).toNat = pcT) (hp' : pc + 3 = pcF) (kT : ¬ x = 0 → o_3 K M Q pcT Ls St sf h cs sl) (kF : x = 0 → o_3 K M Q pcF Ls St sf h cs sl) : o_3 K M Q pc Ls (.int x :: St) sf h cs sl := by
  refine o_5d hd ho hp hp' (fun c => ?_) (fun c => ?_)
  · rw [if0] at c; by_cases q : x = 0
    · have z := (teq q).2; rw [z] at c; cases c
    · exact kT q
  · rw [if0] at c; by_cases q : x = 0
    · exact kF q
    · have z := (feq q).2; rw [z] at c; cases c
theorem o_07 {o : Int} {x y : Int32} {pcT pcF : Nat} (hd : decode M.b pc = .ok (.if_icmp .ne o, 3)) (ho : 0 ≤ (pc : Int) + o) (hp : ((pc : Int) + o).toNat = pcT) (hp' : pc + 3 = pcF) (kT : ¬ x = y → o_3 K M Q pcT Ls St sf h cs sl) (kF : x = y → o_3 K M Q pcF Ls St sf h cs sl) : o_3 K M Q pc Ls (.int y :: .int x :: St) sf h cs sl := by
  refine o_48 hd ho hp hp' (fun c => ?_) (fun c => ?_)
  · by_cases q : x = y
    · have z := (teq q).2; rw [z] at c; cases c
    · exact kT q
  · by_cases q : x = y
    · exact kF q
    · have z := (feq q).2; rw [z] at c; cases c
theorem o_5f {o : Int} {x : Int32} {pcT pcF : Nat} (hd : decode M.b pc = .ok (.ifCond .lt o, 3)) (ho : 0 ≤ (pc : Int) + o) (hp : ((pc : Int) + o).toNat = pcT) (hp' : pc + 3 = pcF) (kT : x < 0 → o_3 K M Q pcT Ls St sf h cs sl) (kF : ¬ x < 0 → o_3 K M Q pcF Ls St sf h cs sl) : o_3 K M Q pc Ls (.int x :: St) sf h cs sl := by
  refine o_5d hd ho hp hp' (fun c => ?_) (fun c => ?_)
  · rw [if0] at c; by_cases q : x < 0
    · exact kT q
    · have z := (flt q).1; rw [z] at c; cases c
  · rw [if0] at c; by_cases q : x < 0
    · have z := (tlt q).1; rw [z] at c; cases c
    · exact kF q
theorem o_1g {o : Int} {x y : Int32} {pcT pcF : Nat} (hd : decode M.b pc = .ok (.if_icmp .lt o, 3)) (ho : 0 ≤ (pc : Int) + o) (hp : ((pc : Int) + o).toNat = pcT) (hp' : pc + 3 = pcF) (kT : x < y → o_3 K M Q pcT Ls St sf h cs sl) (kF : ¬ x < y → o_3 K M Q pcF Ls St sf h cs sl) : o_3 K M Q pc Ls (.int y :: .int x :: St) sf h cs sl := by
  refine o_48 hd ho hp hp' (fun c => ?_) (fun c => ?_)
  · by_cases q : x < y
    · exact kT q
    · have z := (flt q).1; rw [z] at c; cases c
  · by_cases q : x < y
    · have z := (tlt q).1; rw [z] at c; cases c
    · exact kF q
theorem o_49 {o : Int} {x : Int32} {pcT pcF : Nat} (hd : decode M.b pc = .ok (.ifCond .ge o, 3)) (ho : 0 ≤ (pc : Int) + o) (hp : ((pc : Int) + o).toNat = pcT) (hp' : pc + 3 = pcF) (kT : ¬ x < 0 → o_3 K M Q pcT Ls St sf h cs sl) (kF : x < 0 → o_3 K M Q pcF Ls St sf h cs sl) : o_3 K M Q pc Ls (.int x :: St) sf h cs sl := by
  refine o_5d hd ho hp hp' (fun c => ?_) (fun c => ?_)
  · rw [if0] at c; by_cases q : x < 0
    · have z := (tlt q).2.1; rw [z] at c; cases c
    · exact kT q
  · rw [if0] at c; by_cases q : x < 0
    · exact kF q
    · have z := (flt q).2.1; rw [z] at c; cases c
theorem o_14 {o : Int} {x y : Int32} {pcT pcF : Nat} (hd : decode M.b pc = .ok (.if_icmp .ge o, 3)) (ho : 0 ≤ (pc : Int) + o) (hp : ((pc : Int) + o).toNat = pcT) (hp' : pc + 3 = pcF) (kT : ¬ x < y → o_3 K M Q pcT Ls St sf h cs sl) (kF : x < y → o_3 K M Q pcF Ls St sf h cs sl) : o_3 K M Q pc Ls (.int y :: .int x :: St) sf h cs sl := by
  refine o_48 hd ho hp hp' (fun c => ?_) (fun c => ?_)
  · by_cases q : x < y
    · have z := (tlt q).2.1; rw [z] at c; cases c
    · exact kT q
  · by_cases q : x < y
    · exact kF q
    · have z := (flt q).2.1; rw [z] at c; cases c
theorem o_9m {o : Int} {x : Int32} {pcT pcF : Nat} (hd : decode M.b pc = .ok (.ifCond .gt o, 3)) (ho : 0 ≤ (pc : Int) + o) (hp : ((pc : Int) + o).toNat = pcT) (hp' : pc + 3 = pcF) (kT : 0 < x → o_3 K M Q pcT Ls St sf h cs sl) (kF : ¬ 0 < x → o_3 K M Q pcF Ls St sf h cs sl) : o_3 K M Q pc Ls (.int x :: St) sf h cs sl := by
  refine o_5d hd ho hp hp' (fun c => ?_) (fun c => ?_)
  · rw [if0] at c; by_cases q : 0 < x
    · exact kT q
    · have z := (flt q).2.2.1; rw [z] at c; cases c
  · rw [if0] at c; by_cases q : 0 < x
    · have z := (tlt q).2.2.1; rw [z] at c; cases c
    · exact kF q
theorem o_4s {o : Int} {x y : Int32} {pcT pcF : Nat} (hd : decode M.b pc = .ok (.if_icmp .gt o, 3)) (ho : 0 ≤ (pc : Int) + o) (hp : ((pc : Int) + o).toNat = pcT) (hp' : pc + 3 = pcF) (kT : y < x → o_3 K M Q pcT Ls St sf h cs sl) (kF : ¬ y < x → o_3 K M Q pcF Ls St sf h cs sl) : o_3 K M Q pc Ls (.int y :: .int x :: St) sf h cs sl := by
  refine o_48 hd ho hp hp' (fun c => ?_) (fun c => ?_)
  · by_cases q : y < x
    · exact kT q
    · have z := (flt q).2.2.1; rw [z] at c; cases c
  · by_cases q : y < x
    · have z := (tlt q).2.2.1; rw [z] at c; cases c
    · exact kF q
theorem o_2g {o : Int} {x : Int32} {pcT pcF : Nat} (hd : decode M.b pc = .ok (.ifCond .le o, 3)) (ho : 0 ≤ (pc : Int) + o) (hp : ((pc : Int) + o).toNat = pcT) (hp' : pc + 3 = pcF) (kT : ¬ 0 < x → o_3 K M Q pcT Ls St sf h cs sl) (kF : 0 < x → o_3 K M Q pcF Ls St sf h cs sl) : o_3 K M Q pc Ls (.int x :: St) sf h cs sl := by
  refine o_5d hd ho hp hp' (fun c => ?_) (fun c => ?_)
  · rw [if0] at c; by_cases q : 0 < x
    · have z := (tlt q).2.2.2; rw [z] at c; cases c
    · exact kT q
  · rw [if0] at c; by_cases q : 0 < x
    · exact kF q
    · have z := (flt q).2.2.2; rw [z] at c; cases c
theorem o_1m {o : Int} {x y : Int32} {pcT pcF : Nat} (hd : decode M.b pc = .ok (.if_icmp .le o, 3)) (ho : 0 ≤ (pc : Int) + o) (hp : ((pc : Int) + o).toNat = pcT) (hp' : pc + 3 = pcF) (kT : ¬ y < x → o_3 K M Q pcT Ls St sf h cs sl) (kF : y < x → o_3 K M Q pcF Ls St sf h cs sl) : o_3 K M Q pc Ls (.int y :: .int x :: St) sf h cs sl := by
  refine o_48 hd ho hp hp' (fun c => ?_) (fun c => ?_)
  · by_cases q : y < x
    · have z := (tlt q).2.2.2; rw [z] at c; cases c
    · exact kT q
  · by_cases q : y < x
    · exact kF q
    · have z := (flt q).2.2.2; rw [z] at c; cases c
theorem o_3n {o : Int} (hd : decode M.b pc = .ok (.ifnull o, 3)) (ho : 0 ≤ (pc : Int) + o) (hp : ((pc : Int) + o).toNat = pc') (k : o_3 K M Q pc' Ls St sf h cs sl) : o_3 K M Q pc Ls (.null :: St) sf h cs sl :=
  o_e k fun p e s m args below meth c T locs cs' sl' B X eT t q => XS.ifnullYes X.here B.1 rfl (pc0 := pc) rfl (hb B.2.1 hd) rfl ho hp q
theorem o_3o {o : Int} {b : Addr} (hp : pc + 3 = pc') (hd : decode M.b pc = .ok (.ifnull o, 3)) (k : o_3 K M Q pc' Ls St sf h cs sl) : o_3 K M Q pc Ls (.ref b :: St) sf h cs sl :=
  o_e k fun p e s m args below meth c T locs cs' sl' B X eT t q => XS.ifnullNo X.here B.1 rfl (hb B.2.1 hd) rfl (by subst hp; exact q)
theorem o_3j {o : Int} {b : Addr} (hd : decode M.b pc = .ok (.ifnonnull o, 3)) (ho : 0 ≤ (pc : Int) + o) (hp : ((pc : Int) + o).toNat = pc') (k : o_3 K M Q pc' Ls St sf h cs sl) : o_3 K M Q pc Ls (.ref b :: St) sf h cs sl :=
  o_e k fun p e s m args below meth c T locs cs' sl' B X eT t q => XS.ifnonnullYes X.here B.1 rfl (pc0 := pc) rfl (hb B.2.1 hd) rfl ho hp q
theorem o_1x {o : Int} (hp : pc + 3 = pc') (hd : decode M.b pc = .ok (.ifnonnull o, 3)) (k : o_3 K M Q pc' Ls St sf h cs sl) : o_3 K M Q pc Ls (.null :: St) sf h cs sl :=
  o_e k fun p e s m args below meth c T locs cs' sl' B X eT t q => XS.ifnonnullNo X.here B.1 rfl (hb B.2.1 hd) rfl (by subst hp; exact q)
theorem o_4t {o : Int} {x y : Value} {pcT pcF : Nat} (hd : decode M.b pc = .ok (.if_acmp .eq o, 3)) (ho : 0 ≤ (pc : Int) + o) (hp : ((pc : Int) + o).toNat = pcT) (hp' : pc + 3 = pcF) (hx : x.isRef = true) (hy : y.isRef = true) (kT : x = y → o_3 K M Q pcT Ls St sf h cs sl) (kF : ¬ x = y → o_3 K M Q pcF Ls St sf h cs sl) : o_3 K M Q pc Ls (y :: x :: St) sf h cs sl := by
  by_cases z : x = y
  · exact o_e (kT z) fun p e s m args below meth c T locs cs' sl' B X eT t q => XT.acmpYes X.here B.1 rfl (pc0 := pc) rfl (hb B.2.1 hd) rfl hx hy (by simp [XT.acmp, z]) ho hp q
  · exact o_e (kF z) fun p e s m args below meth c T locs cs' sl' B X eT t q => XT.acmpNo X.here B.1 rfl (hb B.2.1 hd) rfl hx hy (by simp [XT.acmp, z]) (by subst hp'; exact q)
theorem o_6g {o : Int} {x y : Value} {pcT pcF : Nat} (hd : decode M.b pc = .ok (.if_acmp .ne o, 3)) (ho : 0 ≤ (pc : Int) + o) (hp : ((pc : Int) + o).toNat = pcT) (hp' : pc + 3 = pcF) (hx : x.isRef = true) (hy : y.isRef = true) (kT : ¬ x = y → o_3 K M Q pcT Ls St sf h cs sl) (kF : x = y → o_3 K M Q pcF Ls St sf h cs sl) : o_3 K M Q pc Ls (y :: x :: St) sf h cs sl := by
  by_cases z : x = y
  · exact o_e (kF z) fun p e s m args below meth c T locs cs' sl' B X eT t q => XT.acmpNo X.here B.1 rfl (hb B.2.1 hd) rfl hx hy (by simp [XT.acmp, z]) (by subst hp'; exact q)
  · exact o_e (kT z) fun p e s m args below meth c T locs cs' sl' B X eT t q => XT.acmpYes X.here B.1 rfl (pc0 := pc) rfl (hb B.2.1 hd) rfl hx hy (by simp [XT.acmp, z]) ho hp q
/-- returns -/
theorem o_0b {qn : Heap → List Addr → Prop} (hr : M.ret = none) (hd : decode M.b pc = .ok (.return_, 1)) (hc : Nat.ble cs M.R.cells = true) (hs : Nat.ble sl M.R.slots = true) (q : qn h sf) : o_3 K M (o_09 qn) pc Ls [] sf h cs sl :=
  o_57 (v := none) (fun _ => rfl) (Nat.le_of_ble_eq_true hc) (Nat.le_of_ble_eq_true hs) ⟨rfl, q⟩ fun p e s m args below meth c T locs cs' sl' B X fs hl => X.returnOut B.1 (by rw [B.2.2.2.2.2.1, hr]) (hb B.2.1 hd) hl
theorem o_00 {qv : Value → Heap → List Addr → Prop} {z : Int32} (hr : M.ret = some .int) (hd : decode M.b pc = .ok (.ireturn, 1)) (hc : Nat.ble cs M.R.cells = true) (hs : Nat.ble sl M.R.slots = true) (q : qv (.int z) h sf) : o_3 K M (o_c qv) pc Ls (.int z :: St) sf h cs sl :=
  o_57 (v := some (.int z)) (fun n => by rw [hr] at n; cases n) (Nat.le_of_ble_eq_true hc) (Nat.le_of_ble_eq_true hs) ⟨_, rfl, q⟩ fun p e s m args below meth c T locs cs' sl' B X fs hl => retOut X B.1 (t := .int) (by rw [B.2.2.2.2.2.1, hr]) rfl (Or.inl ⟨rfl, Or.inl rfl, z, rfl⟩) (hb B.2.1 hd) hl
theorem o_y {qv : Value → Heap → List Addr → Prop} {t : FieldType} {z z' : Int32} (hr : M.ret = some t) (ht : t = .boolean ∨ t = .byte ∨ t = .char ∨ t = .short) (hz : nar t z = z') (hd : decode M.b pc = .ok (.ireturn, 1)) (hc : Nat.ble cs M.R.cells = true) (hs : Nat.ble sl M.R.slots = true) (q : qv (.int z') h sf) : o_3 K M (o_c qv) pc Ls (.int z :: St) sf h cs sl :=
  o_57 (v := some (.int z')) (fun n => by rw [hr] at n; cases n) (Nat.le_of_ble_eq_true hc) (Nat.le_of_ble_eq_true hs) ⟨_, rfl, q⟩ fun p e s m args below meth c T locs cs' sl' B X fs hl => retN X B.1 (t := t) (by rw [B.2.2.2.2.2.1, hr]) ht (hb B.2.1 hd) (by rw [hz]; exact hl)
theorem o_i {qv : Value → Heap → List Addr → Prop} {t : FieldType} {v : Value} (hr : M.ret = some t) (ht : t.isReference = true) (hv : v.isRef = true) (hd : decode M.b pc = .ok (.areturn, 1)) (hc : Nat.ble cs M.R.cells = true) (hs : Nat.ble sl M.R.slots = true) (q : qv v h sf) : o_3 K M (o_c qv) pc Ls (v :: St) sf h cs sl :=
  o_57 (v := some v) (fun n => by rw [hr] at n; cases n) (Nat.le_of_ble_eq_true hc) (Nat.le_of_ble_eq_true hs) ⟨_, rfl, q⟩ fun p e s m args below meth c T locs cs' sl' B X fs hl => retOut X B.1 (t := t) (by rw [B.2.2.2.2.2.1, hr]) (by cases t <;> first | (cases ht; done) | (rcases ref_cases hv with rfl | ⟨_, rfl⟩ <;> rfl)) (Or.inr (Or.inr (Or.inr (Or.inr ⟨rfl, ht, hv⟩)))) (hb B.2.1 hd) hl
theorem o_q {index : Nat} {R0 O n d : String} {a : Addr} {v : Value} (hp : pc + 3 = pc') (hd : decode M.b pc = .ok (.getfield index, 3)) (w : (Jvm.Cond.fieldLink M.y.cls index R0 n d).before a0 K.Z = true) (via : Via K.Z R0 O n d) (F : Fld K.Z h a O n d v) (k : o_3 K M Q pc' Ls (v :: St) sf h cs sl) : o_3 K M Q pc Ls (.ref a :: St) sf h cs sl := by
  subst hp
  exact o_32 k fun p e s m args below meth c T locs cs' sl' B X eT hE => getF X B.1 B.2.2.2.2.2.2.2.1 (host := "") B.2.2.2.1 (Or.inl w) via eT F (g := mkF m pc Ls.toArray (.ref a :: St)) rfl rfl (hb B.2.1 hd)
theorem o_2o {index : Nat} {R0 O n d : String} {v : Value} (hp : pc + 3 = pc') (hd : decode M.b pc = .ok (.getstatic index, 3)) (w : (Jvm.Cond.fieldLink M.y.cls index R0 n d).before a0 K.Z = true) (via : Via K.Z R0 O n d) (F : Sta K.Z K.Z.heap O n d v) (k : o_3 K M Q pc' Ls (v :: St) sf h cs sl) : o_3 K M Q pc Ls St sf h cs sl := by
  subst hp
  exact o_32 k fun p e s m args below meth c T locs cs' sl' B X eT hE => getS X B.1 B.2.2.2.2.2.2.2.1 (host := "") B.2.2.2.1 w via eT (F.ext hE) (g := mkF m pc Ls.toArray St) rfl (hb B.2.1 hd)
theorem o_29 {index n : Nat} {C : String} (hp : pc + 3 = pc') (hd : decode M.b pc = .ok (.new index, 3)) (w : (Jvm.Cond.classLink M.y.cls index C).before a0 K.Z = true) (wi : (Jvm.Cond.instantiable C n).before a0 K.Z = true) (wz : (Jvm.Cond.initialized C).before a0 K.Z = true) (hc : Nat.ble (cs + 1) M.R.cells = true) (hs : Nat.ble (sl + n) M.R.slots = true)
    (k : ∀ (a : Addr) (h' : Heap), @Eq Nat a h.size → Ext h h' → Exa K.Z h' a C → (∀ {O nm d : String} {ty : FieldType}, Laid K.Z a0 C O nm d → parseFieldDescriptor d = some ty → Fld K.Z h' a O nm d (defaultValue ty)) → o_3 K M Q pc' Ls (.ref a :: St) (a :: sf) h' (cs + 1) (sl + n)) : o_3 K M Q pc Ls St sf h cs sl := by
  subst hp
  refine o_4z (P := fun h' => Exa K.Z h' h.size C ∧ (∀ {O nm d : String} {ty : FieldType}, Laid K.Z a0 C O nm d → parseFieldDescriptor d = some ty → Fld K.Z h' h.size O nm d (defaultValue ty))) (Nat.le_of_ble_eq_true hc) (Nat.le_of_ble_eq_true hs) (fun h' E P => k _ h' rfl E P.1 P.2) ?_
  intro p e s m args below meth c T locs cs' sl' B X hc' hs' eT
  obtain ⟨T', h', X', e', E, A, D, -, st⟩ := newO X B.1 B.2.2.2.2.2.2.2.1 B.2.2.2.1 w wi wz eT (g := mkF m pc Ls.toArray St) rfl (hb B.2.1 hd) hc' hs'
  exact ⟨T', h', X', e', E, A.lt, ⟨A, D⟩, st⟩
theorem o_06 {index kk : Nat} {R0 O n d C : String} {ty : FieldType} {a : Addr} {v v' old : Value} (hp : pc + 3 = pc') (hd : decode M.b pc = .ok (.putfield index, 3)) (w : (Jvm.Cond.fieldLink M.y.cls index R0 n d).before a0 K.Z = true) (via : Via K.Z R0 O n d)
    (L : (Jvm.Cond.lays C O n d).before a0 K.Z = true ∨ ((Jvm.Cond.laysFinal C O n d).before a0 K.Z = true ∧ M.y.cls = O ∧ M.y.name = "<init>")) (wi : (Jvm.Cond.instantiable C kk).before a0 K.Z = true) (hty : parseFieldDescriptor d = some ty) (hn : narrow ty v = v') (hf : fits ty v' = true) (F : Fld K.Z h a O n d old) (E : Exa K.Z h a C) (ha : a ∈ sf)
    (k : ∀ h', Wr h h' a (RoadKit.slotOf K.Z O n d) v' → o_3 K M Q pc' Ls St sf h' cs sl) : o_3 K M Q pc Ls (v :: .ref a :: St) sf h cs sl := by
  subst hp
  exact o_56 ha k fun p e s m args below meth c T locs cs' sl' B X eT => putFN X B.1 B.2.2.2.2.2.2.2.1 B.2.2.2.1 w via eT F E (L.imp id fun q => ⟨q.1, q.2.1, by rw [B.2.2.2.2.1.1]; exact q.2.2⟩) wi hty hn hf (g := mkF m pc Ls.toArray (v :: .ref a :: St)) rfl rfl (hb B.2.1 hd)
theorem o_2w {index : Nat} {a : Addr} (hp : pc + 3 = pc') (hd : decode M.b pc = .ok (.invokespecial index, 3)) (w1 : (Jvm.Cond.methodLink M.y.cls index Lib.objectInit).before a0 K.Z = true) (w2 : (Jvm.Cond.instanceMethod Lib.objectInit).before a0 K.Z = true) (w3 : (Jvm.Cond.code Lib.objectInit ⟨#[0xb1]⟩ 1 none).before a0 K.Z = true) (hsz : Ls.length = M.mx) (hf : Nat.ble 1 M.R.frames = true) (hl : Nat.ble ((St.map fun v => v.category).sum + 12) M.R.locals = true)
    (k : o_3 K M Q pc' Ls St sf h cs sl) : o_3 K M Q pc Ls (.ref a :: St) sf h cs sl := by
  subst hp
  exact o_32 k fun p e s m args below meth c T locs cs' sl' B X eT hE => initO X B.1 B.2.2.2.2.2.2.2.1 B.2.2.2.1 w1 w2 w3 eT (g := mkF m pc Ls.toArray (.ref a :: St)) rfl (by rw [B.2.2.1, ← hsz]; simp) rfl (hb B.2.1 hd) (Nat.le_of_ble_eq_true hf) (W := (St.map fun v => v.category).sum) (by show 2 * 0 + _ ≤ _; omega) (Nat.le_of_ble_eq_true hl)
theorem o_24 {index : Nat} {C : String} {a : Addr} (hp : pc + 3 = pc') (hd : decode M.b pc = .ok (.checkcast index, 3)) (w : (Jvm.Cond.classLink M.y.cls index C).before a0 K.Z = true) (F : Ins K.Z h a C true) (k : o_3 K M Q pc' Ls (.ref a :: St) sf h cs sl) : o_3 K M Q pc Ls (.ref a :: St) sf h cs sl := by
  subst hp
  exact o_32 k fun p e s m args below meth c T locs cs' sl' B X eT hE => castY X B.1 B.2.2.2.2.2.2.2.1 B.2.2.2.1 w eT F (g := mkF m pc Ls.toArray (.ref a :: St)) rfl rfl (hb B.2.1 hd)
theorem o_9a {index : Nat} {C : String} {a : Addr} (hp : pc + 3 = pc') (hd : decode M.b pc = .ok (.instanceof index, 3)) (w : (Jvm.Cond.classLink M.y.cls index C).before a0 K.Z = true) (F : Ins K.Z h a C true) (k : o_3 K M Q pc' Ls (.int 1 :: St) sf h cs sl) : o_3 K M Q pc Ls (.ref a :: St) sf h cs sl := by
  subst hp
  exact o_32 k fun p e s m args below meth c T locs cs' sl' B X eT hE => instY X B.1 B.2.2.2.2.2.2.2.1 B.2.2.2.1 w eT F (g := mkF m pc Ls.toArray (.ref a :: St)) rfl rfl (hb B.2.1 hd)
end Plain
section Arrays
/-- the array at a holds just vs -/
def o_g (Z : State) (h : Heap) (a : Addr) (ty : FieldType) (vs : List Value) : Prop := ∃ c : Cell, Arr Z h a c ty ∧ c.slots = vs.toArray ∧ vs.length < 2 ^ 31
variable {K : o_b} {M : o_7} {Q : o_0g} {pc pc' : Nat} {Ls : List Slot} {St : List Value} {sf : List Addr} {h h' : Heap} {cs sl : Nat} {a0 : Array Value} {Z : State} {a b : Addr} {ty : FieldType} {vs : List Value}
theorem o_g.ext (F : o_g Z h a ty vs) (E : Ext h h') : o_g Z h' a ty vs := by obtain ⟨c, A, r⟩ := F; exact ⟨c, A.ext E, r⟩
theorem o_g.lt (F : o_g Z h a ty vs) : a < h.size := by obtain ⟨c, A, r⟩ := F; exact A.lt
theorem o_g.keep {ws : List Addr} (F : o_g Z h a ty vs) (k : Keep h h' ws) (q : a ∉ ws) : o_g Z h' a ty vs := by obtain ⟨c, A, r⟩ := F; exact ⟨c, ⟨k.2.1 a c A.1 q, A.2⟩, r⟩
theorem o_g.other {i : Nat} {v : Value} (F : o_g Z h b ty vs) (W : Wr h h' a i v) (q : b ≠ a) : o_g Z h' b ty vs := by obtain ⟨c, A, r⟩ := F; exact ⟨c, A.other W q, r⟩
theorem o_g.same {i : Nat} {v : Value} (F : o_g Z h a ty vs) (W : Wr h h' a i v) : o_g Z h' a ty (vs.set i v) := by
  obtain ⟨c, A, r1, r2⟩ := F
  refine ⟨c.setSlot i v, A.same W, ?_, by simpa using r2⟩
  simp [Cell.setSlot, r1]
theorem o_4x {j : Int32} {i n : Nat} (hj : j.toInt = i) (hi : i < n) : ¬ (j < 0 ∨ n ≤ j.toNatClampNeg) ∧ j.toNatClampNeg = i := by
  have q : j.toNatClampNeg = i := by
    have : j.toNatClampNeg = j.toInt.toNat := rfl
    rw [this, hj]; rfl
  refine ⟨fun z => ?_, q⟩
  rcases z with z | z
  · rw [Int32.lt_iff_toInt_lt, hj] at z
    have : (0 : Int32).toInt = 0 := rfl
    omega
  · omega
theorem o_4a {n : Nat} (q : n < 2 ^ 31) : (n.toInt32).toInt = n := Int32.toInt_ofNat_small q
theorem o_01 {z : Int32} (hp : pc + 1 = pc') (hd : decode M.b pc = .ok (.arraylength, 1)) (F : o_g K.Z h a ty vs) (hz : z.toInt = vs.length) (k : o_3 K M Q pc' Ls (.int z :: St) sf h cs sl) : o_3 K M Q pc Ls (.ref a :: St) sf h cs sl := by
  obtain ⟨cl, A, r1, r2⟩ := F
  have e1 : cl.slots.size.toInt32 = z := by
    apply Int32.toInt_inj.mp
    rw [hz, r1]; simpa using o_4a r2
  exact o_e k fun p e s m args below meth c T locs cs' sl' B X eT t q => X.arraylength B.1 (by rw [eT]; exact A.1) (State.isArrayOf_alike B.2.2.2.2.2.2.2.1.alike A.2.1) (g := mkF m pc Ls.toArray (.ref a :: St)) rfl rfl (hb B.2.1 hd) t (by subst hp; rw [e1]; exact q)
theorem o_8y {i : Nat} {j : Int32} {v : Value} (hp : pc + 1 = pc') (hd : decode M.b pc = .ok (.caload, 1)) (F : o_g K.Z h a .char vs) (hj : j.toInt = i) (hv : vs[i]? = some v) (k : o_3 K M Q pc' Ls (v :: St) sf h cs sl) : o_3 K M Q pc Ls (.int j :: .ref a :: St) sf h cs sl := by
  obtain ⟨cl, A, r1, r2⟩ := F
  have hi : i < vs.length := (List.getElem?_eq_some_iff.mp hv).1
  have hsz : cl.slots.size = vs.length := by rw [r1]; simp
  obtain ⟨q1, q2⟩ := o_4x (n := cl.slots.size) hj (by rw [hsz]; exact hi)
  exact o_e k fun p e s m args below meth c T locs cs' sl' B X eT t q => X.caload B.1 (j := j) (v := v) (by rw [eT]; exact A.1) (State.isArrayOf_alike B.2.2.2.2.2.2.2.1.alike A.2.1) A.2.2 q1 (by rw [q2, r1]; simpa using hv) (g := mkF m pc Ls.toArray (.int j :: .ref a :: St)) rfl rfl (hb B.2.1 hd) t (by subst hp; exact q)
theorem o_34 {i : Nat} {j : Int32} {v : Value} (hp : pc + 1 = pc') (hd : decode M.b pc = .ok (.baload, 1)) (F : o_g K.Z h a .byte vs) (hj : j.toInt = i) (hv : vs[i]? = some v) (k : o_3 K M Q pc' Ls (v :: St) sf h cs sl) : o_3 K M Q pc Ls (.int j :: .ref a :: St) sf h cs sl := by
  obtain ⟨cl, A, r1, r2⟩ := F
  have hi : i < vs.length := (List.getElem?_eq_some_iff.mp hv).1
  have hsz : cl.slots.size = vs.length := by rw [r1]; simp
  obtain ⟨q1, q2⟩ := o_4x (n := cl.slots.size) hj (by rw [hsz]; exact hi)
  exact o_e k fun p e s m args below meth c T locs cs' sl' B X eT t q => X.baloadBytes B.1 (j := j) (v := v) (by rw [eT]; exact A.1) (State.isArrayOf_alike B.2.2.2.2.2.2.2.1.alike A.2.1) A.2.2 q1 (by rw [q2, r1]; simpa using hv) (g := mkF m pc Ls.toArray (.int j :: .ref a :: St)) rfl rfl (hb B.2.1 hd) t (by subst hp; exact q)
theorem o_15 {i : Nat} {j : Int32} {v : Value} (hp : pc + 1 = pc') (hd : decode M.b pc = .ok (.aaload, 1)) (hty : ty.isReference = true) (F : o_g K.Z h a ty vs) (hj : j.toInt = i) (hv : vs[i]? = some v) (k : o_3 K M Q pc' Ls (v :: St) sf h cs sl) : o_3 K M Q pc Ls (.int j :: .ref a :: St) sf h cs sl := by
  obtain ⟨cl, A, r1, r2⟩ := F
  have hi : i < vs.length := (List.getElem?_eq_some_iff.mp hv).1
  have hsz : cl.slots.size = vs.length := by rw [r1]; simp
  obtain ⟨q1, q2⟩ := o_4x (n := cl.slots.size) hj (by rw [hsz]; exact hi)
  exact o_e k fun p e s m args below meth c T locs cs' sl' B X eT t q => X.aaload B.1 (j := j) (v := v) (by rw [eT]; exact A.1) (State.isArrayOf_alike B.2.2.2.2.2.2.2.1.alike A.2.1) hty A.2.2 q1 (by rw [q2, r1]; simpa using hv) (g := mkF m pc Ls.toArray (.int j :: .ref a :: St)) rfl rfl (hb B.2.1 hd) t (by subst hp; exact q)
theorem o_05 {i : Nat} {j x x' : Int32} (hp : pc + 1 = pc') (hd : decode M.b pc = .ok (.castore, 1)) (F : o_g K.Z h a .char vs) (hj : j.toInt = i) (hi : i < vs.length) (hx : nar .char x = x') (ha : a ∈ sf) (k : ∀ h', Keep h h' [a] → o_g K.Z h' a .char (vs.set i (.int x')) → o_3 K M Q pc' Ls St sf h' cs sl) : o_3 K M Q pc Ls (.int x :: .int j :: .ref a :: St) sf h cs sl := by
  subst hp hx
  have F' := F
  obtain ⟨cl, A, r1, r2⟩ := F
  have hsz : cl.slots.size = vs.length := by rw [r1]; simp
  obtain ⟨q1, q2⟩ := o_4x (n := cl.slots.size) hj (by rw [hsz]; exact hi)
  refine o_56 ha (i := j.toNatClampNeg) (fun h' W => k h' (Keep.of_wr W) (by rw [← q2]; exact F'.same W)) ?_
  exact fun p e s m args below meth c T locs cs' sl' B X eT => stC X B.1 B.2.2.2.2.2.2.2.1 eT A (j := j) q1 (g := mkF m pc Ls.toArray (.int x :: .int j :: .ref a :: St)) rfl rfl (hb B.2.1 hd)
theorem o_59 {i : Nat} {j x x' : Int32} (hp : pc + 1 = pc') (hd : decode M.b pc = .ok (.bastore, 1)) (F : o_g K.Z h a .byte vs) (hj : j.toInt = i) (hi : i < vs.length) (hx : nar .byte x = x') (ha : a ∈ sf) (k : ∀ h', Keep h h' [a] → o_g K.Z h' a .byte (vs.set i (.int x')) → o_3 K M Q pc' Ls St sf h' cs sl) : o_3 K M Q pc Ls (.int x :: .int j :: .ref a :: St) sf h cs sl := by
  subst hp hx
  have F' := F
  obtain ⟨cl, A, r1, r2⟩ := F
  have hsz : cl.slots.size = vs.length := by rw [r1]; simp
  obtain ⟨q1, q2⟩ := o_4x (n := cl.slots.size) hj (by rw [hsz]; exact hi)
  refine o_56 ha (i := j.toNatClampNeg) (fun h' W => k h' (Keep.of_wr W) (by rw [← q2]; exact F'.same W)) ?_
  exact fun p e s m args below meth c T locs cs' sl' B X eT => stB X B.1 B.2.2.2.2.2.2.2.1 eT A (j := j) q1 (g := mkF m pc Ls.toArray (.int x :: .int j :: .ref a :: St)) rfl rfl (hb B.2.1 hd)
theorem o_1p {aty : ArrayType} {n : Int32} {N cap : Nat} (hp : pc + 2 = pc') (hd : decode M.b pc = .ok (.newarray aty, 2)) (w : (Jvm.Cond.arrayClass (newarray.typeOf aty)).before a0 K.Z = true) (hn : n.toInt = N) (hcap : N ≤ cap) (hb' : Nat.ble (cap * 8) 536870912 = true) (hc : Nat.ble (cs + 1) M.R.cells = true) (hs : Nat.ble (sl + cap) M.R.slots = true)
    (k : ∀ (a : Addr) (h' : Heap), @Eq Nat a h.size → Ext h h' → o_g K.Z h' a (newarray.typeOf aty) (List.replicate N (defaultValue (newarray.typeOf aty))) → o_3 K M Q pc' Ls (.ref a :: St) (a :: sf) h' (cs + 1) (sl + cap)) : o_3 K M Q pc Ls (.int n :: St) sf h cs sl := by
  subst hp
  have hN : n.toNatClampNeg = N := by
    have : n.toNatClampNeg = n.toInt.toNat := rfl
    rw [this, hn]; rfl
  have h0 : ¬ n < 0 := fun z => by
    rw [Int32.lt_iff_toInt_lt, hn] at z
    have : (0 : Int32).toInt = 0 := rfl
    omega
  refine o_4z (P := fun h' => o_g K.Z h' h.size (newarray.typeOf aty) (List.replicate N (defaultValue (newarray.typeOf aty)))) (Nat.le_of_ble_eq_true hc) (Nat.le_of_ble_eq_true hs) (fun h' E P => k _ h' rfl E P) ?_
  intro p e s m args below meth c T locs cs' sl' B X hc' hs' eT
  obtain ⟨T', h', cA, X', e', E, A, st⟩ := newP X B.1 B.2.2.2.2.2.2.2.1 w eT (g := mkF m pc Ls.toArray (.int n :: St)) rfl (hb B.2.1 hd) rfl h0 (cap := cap) (by omega) (Nat.le_of_ble_eq_true hb') hc' hs'
  have hlt := (back32 h0).2
  exact ⟨T', h', X', e', E, A.lt, ⟨_, A, by simp [newA, hN], by rw [List.length_replicate, ← hN]; exact hlt⟩, st⟩
end Arrays
theorem o_6 {d : String} {ps : List FieldType} {r : Option FieldType} (hd : parseMethodDescriptor d = some ⟨ps, r⟩) {n : Nat} (hl : n = ps.length) : ∀ sig, parseMethodDescriptor d = some sig → n = sig.parameters.length := fun sig q => by cases hd.symm.trans q; exact hl
theorem o_5 {v : Value} (q : v.isRef = true) : v.category = 1 := by rcases ref_cases q with rfl | ⟨_, rfl⟩ <;> rfl
theorem o_4k {a b : Addr} (q : @Ne Nat a b) : a ≠ b := q
theorem o_0v : nar .boolean 0 = 0 := rfl
theorem o_0w : nar .boolean 1 = 1 := rfl
theorem o_42 {cs : List Int32} {i : Nat} {c : Int32} (hc : cs[i]? = some c) : (cs.map Value.int)[i]? = some (.int c) := by simp [hc]
theorem o_2h {cs : List Int32} {f : Int32 → Int32} {i : Nat} {c : Int32} (hc : cs[i]? = some c) : ((cs.map f).map Value.int)[i]? = some (.int (f c)) := by simp [hc]
abbrev Yn0 : Jvm.MethodName := ({ cls := "java/lang/String", name := "equals", desc := "(Ljava/lang/Object;)Z" } : Jvm.MethodName)
abbrev Yn1 : Jvm.MethodName := ({ cls := "com/example/hand_balancer/handbalancer/cli/Arguments", name := "option", desc := "(Ljava/lang/String;)Ljava/util/Optional;" } : Jvm.MethodName)
abbrev Yn2 : Jvm.MethodName := ({ cls := "java/util/HashMap", name := "getNode", desc := "(Ljava/lang/Object;)Ljava/util/HashMap$Node;" } : Jvm.MethodName)
abbrev Yn3 : Jvm.MethodName := ({ cls := "java/lang/String", name := "length", desc := "()I" } : Jvm.MethodName)
abbrev Yn4 : Jvm.MethodName := ({ cls := "java/lang/String", name := "coder", desc := "()B" } : Jvm.MethodName)
abbrev Yn5 : Jvm.MethodName := ({ cls := "java/lang/String", name := "isLatin1", desc := "()Z" } : Jvm.MethodName)
abbrev Yn6 : Jvm.MethodName := ({ cls := "java/lang/String", name := "substring", desc := "(II)Ljava/lang/String;" } : Jvm.MethodName)
abbrev Yn7 : Jvm.MethodName := ({ cls := "java/util/Objects", name := "requireNonNull", desc := "(Ljava/lang/Object;)Ljava/lang/Object;" } : Jvm.MethodName)
abbrev Yn8 : Jvm.MethodName := ({ cls := "java/util/ArrayList", name := "size", desc := "()I" } : Jvm.MethodName)
abbrev Yn9 : Jvm.MethodName := ({ cls := "java/util/ImmutableCollections$ListN", name := "size", desc := "()I" } : Jvm.MethodName)
abbrev Yn10 : Jvm.MethodName := ({ cls := "java/util/HashMap", name := "get", desc := "(Ljava/lang/Object;)Ljava/lang/Object;" } : Jvm.MethodName)
abbrev Yn11 : Jvm.MethodName := ({ cls := "java/util/ArrayList", name := "add", desc := "(Ljava/lang/Object;)Z" } : Jvm.MethodName)
abbrev Yn12 : Jvm.MethodName := ({ cls := "java/util/ArrayList", name := "get", desc := "(I)Ljava/lang/Object;" } : Jvm.MethodName)
abbrev Yn13 : Jvm.MethodName := ({ cls := "java/util/ImmutableCollections$ListN", name := "get", desc := "(I)Ljava/lang/Object;" } : Jvm.MethodName)
abbrev Yn14 : Jvm.MethodName := ({ cls := "java/util/ImmutableCollections$List12", name := "size", desc := "()I" } : Jvm.MethodName)
abbrev Yn15 : Jvm.MethodName := ({ cls := "java/util/ImmutableCollections$List12", name := "get", desc := "(I)Ljava/lang/Object;" } : Jvm.MethodName)
abbrev Yn16 : Jvm.MethodName := ({ cls := "java/lang/String", name := "<init>", desc := "([C)V" } : Jvm.MethodName)
abbrev Yn17 : Jvm.MethodName := ({ cls := "java/lang/String", name := "<init>", desc := "([CIILjava/lang/Void;)V" } : Jvm.MethodName)
abbrev Yn18 : Jvm.MethodName := ({ cls := "java/lang/StringUTF16", name := "compress", desc := "([CII)[B" } : Jvm.MethodName)
abbrev Yn19 : Jvm.MethodName := ({ cls := "java/lang/StringUTF16", name := "compress", desc := "([CI[BII)I" } : Jvm.MethodName)
abbrev Yn20 : Jvm.MethodName := ({ cls := "java/lang/StringUTF16", name := "coderFromArrayLen", desc := "([BI)B" } : Jvm.MethodName)
abbrev Yn21 : Jvm.MethodName := ({ cls := "com/example/hand_balancer/handbalancer/cli/ArgumentsParsePinLaw", name := "word", desc := "(IZ)Ljava/lang/String;" } : Jvm.MethodName)
abbrev Yn22 : Jvm.MethodName := ({ cls := "com/example/hand_balancer/handbalancer/cli/ArgumentsParsePinLaw", name := "len", desc := "(I)I" } : Jvm.MethodName)
abbrev Yn23 : Jvm.MethodName := ({ cls := "com/example/hand_balancer/handbalancer/cli/ArgumentsParsePinLaw", name := "present", desc := "(I)Z" } : Jvm.MethodName)
abbrev Yn24 : Jvm.MethodName := ({ cls := "com/example/hand_balancer/handbalancer/cli/ArgumentsParsePinLaw", name := "mode", desc := "(I)I" } : Jvm.MethodName)
abbrev Yn25 : Jvm.MethodName := ({ cls := "java/util/List", name := "size", desc := "()I" } : Jvm.MethodName)
abbrev Yn26 : Jvm.MethodName := ({ cls := "com/example/hand_balancer/handbalancer/cli/ArgumentsParsePinLaw", name := "check", desc := "(Lcom/example/hand_balancer/handbalancer/cli/Arguments;Ljava/lang/String;ILjava/lang/String;)Z" } : Jvm.MethodName)
abbrev Yn27 : Jvm.MethodName := ({ cls := "java/util/Optional", name := "ofNullable", desc := "(Ljava/lang/Object;)Ljava/util/Optional;" } : Jvm.MethodName)
abbrev Yn28 : Jvm.MethodName := ({ cls := "com/example/hand_balancer/handbalancer/cli/ArgumentsParsePinLaw", name := "flag", desc := "(ZZI)Ljava/lang/String;" } : Jvm.MethodName)
abbrev Yn29 : Jvm.MethodName := ({ cls := "java/util/List", name := "get", desc := "(I)Ljava/lang/Object;" } : Jvm.MethodName)
abbrev Yn30 : Jvm.MethodName := ({ cls := "java/lang/Math", name := "min", desc := "(II)I" } : Jvm.MethodName)
abbrev Yn31 : Jvm.MethodName := ({ cls := "java/util/Arrays", name := "copyOfRangeByte", desc := "([BII)[B" } : Jvm.MethodName)
abbrev Yn32 : Jvm.MethodName := ({ cls := "java/util/Arrays", name := "checkLength", desc := "(II)V" } : Jvm.MethodName)
abbrev Yn33 : Jvm.MethodName := ({ cls := "java/util/HashMap", name := "hash", desc := "(Ljava/lang/Object;)I" } : Jvm.MethodName)
abbrev Yn34 : Jvm.MethodName := ({ cls := "java/util/ImmutableCollections$AbstractImmutableList", name := "<init>", desc := "()V" } : Jvm.MethodName)
abbrev Yn35 : Jvm.MethodName := ({ cls := "java/lang/String", name := "<init>", desc := "([BB)V" } : Jvm.MethodName)
abbrev Yn36 : Jvm.MethodName := ({ cls := "java/lang/Object", name := "<init>", desc := "()V" } : Jvm.MethodName)
abbrev Yn37 : Jvm.MethodName := ({ cls := "java/util/ArrayList", name := "<init>", desc := "()V" } : Jvm.MethodName)
abbrev Yn38 : Jvm.MethodName := ({ cls := "java/util/AbstractCollection", name := "<init>", desc := "()V" } : Jvm.MethodName)
abbrev Yn39 : Jvm.MethodName := ({ cls := "java/util/ImmutableCollections$AbstractImmutableCollection", name := "<init>", desc := "()V" } : Jvm.MethodName)
abbrev Yn40 : Jvm.MethodName := ({ cls := "java/util/ArrayList", name := "add", desc := "(Ljava/lang/Object;[Ljava/lang/Object;I)V" } : Jvm.MethodName)
abbrev Yn41 : Jvm.MethodName := ({ cls := "java/util/ArrayList", name := "grow", desc := "()[Ljava/lang/Object;" } : Jvm.MethodName)
abbrev Yn42 : Jvm.MethodName := ({ cls := "java/util/ArrayList", name := "grow", desc := "(I)[Ljava/lang/Object;" } : Jvm.MethodName)
abbrev Yn43 : Jvm.MethodName := ({ cls := "java/lang/Math", name := "max", desc := "(II)I" } : Jvm.MethodName)
abbrev Yn44 : Jvm.MethodName := ({ cls := "java/lang/Object", name := "equals", desc := "(Ljava/lang/Object;)Z" } : Jvm.MethodName)
abbrev Yn45 : Jvm.MethodName := ({ cls := "java/util/Map", name := "get", desc := "(Ljava/lang/Object;)Ljava/lang/Object;" } : Jvm.MethodName)
abbrev Yn46 : Jvm.MethodName := ({ cls := "java/util/List", name := "add", desc := "(Ljava/lang/Object;)Z" } : Jvm.MethodName)
abbrev Yn47 : Jvm.MethodName := ({ cls := "java/lang/System", name := "arraycopy", desc := "(Ljava/lang/Object;ILjava/lang/Object;II)V" } : Jvm.MethodName)
abbrev Yn48 : Jvm.MethodName := ({ cls := "java/lang/StringLatin1", name := "equals", desc := "([B[B)Z" } : Jvm.MethodName)
abbrev Yn49 : Jvm.MethodName := ({ cls := "jdk/internal/util/Preconditions", name := "checkIndex", desc := "(IILjava/util/function/BiFunction;)I" } : Jvm.MethodName)
abbrev Yn50 : Jvm.MethodName := ({ cls := "java/lang/StringLatin1", name := "canEncode", desc := "(C)Z" } : Jvm.MethodName)
abbrev Yn51 : Jvm.MethodName := ({ cls := "java/lang/StringLatin1", name := "toBytes", desc := "(C)[B" } : Jvm.MethodName)
abbrev Yn52 : Jvm.MethodName := ({ cls := "java/lang/String", name := "valueOf", desc := "(C)Ljava/lang/String;" } : Jvm.MethodName)
abbrev Yn53 : Jvm.MethodName := ({ cls := "jdk/internal/util/ArraysSupport", name := "signedHashCode", desc := "(I[BII)I" } : Jvm.MethodName)
abbrev Yn54 : Jvm.MethodName := ({ cls := "jdk/internal/util/ArraysSupport", name := "vectorizedHashCode", desc := "(Ljava/lang/Object;IIII)I" } : Jvm.MethodName)
abbrev Yn55 : Jvm.MethodName := ({ cls := "java/lang/StringLatin1", name := "hashCode", desc := "([B)I" } : Jvm.MethodName)
abbrev Yn56 : Jvm.MethodName := ({ cls := "java/lang/String", name := "hashCode", desc := "()I" } : Jvm.MethodName)
abbrev Yn57 : Jvm.MethodName := ({ cls := "java/util/AbstractList", name := "<init>", desc := "()V" } : Jvm.MethodName)
abbrev Yn58 : Jvm.MethodName := ({ cls := "java/util/Objects", name := "checkIndex", desc := "(II)I" } : Jvm.MethodName)
abbrev Yn59 : Jvm.MethodName := ({ cls := "java/util/ArrayList", name := "elementData", desc := "(I)Ljava/lang/Object;" } : Jvm.MethodName)
abbrev Yn60 : Jvm.MethodName := ({ cls := "java/util/ArrayList", name := "isEmpty", desc := "()Z" } : Jvm.MethodName)
abbrev Yn61 : Jvm.MethodName := ({ cls := "java/util/HashMap$Node", name := "<init>", desc := "(ILjava/lang/Object;Ljava/lang/Object;Ljava/util/HashMap$Node;)V" } : Jvm.MethodName)
abbrev Yn62 : Jvm.MethodName := ({ cls := "java/util/HashMap", name := "newNode", desc := "(ILjava/lang/Object;Ljava/lang/Object;Ljava/util/HashMap$Node;)Ljava/util/HashMap$Node;" } : Jvm.MethodName)
abbrev Yn63 : Jvm.MethodName := ({ cls := "java/util/HashMap", name := "resize", desc := "()[Ljava/util/HashMap$Node;" } : Jvm.MethodName)
abbrev Yn64 : Jvm.MethodName := ({ cls := "java/util/HashMap", name := "afterNodeInsertion", desc := "(Z)V" } : Jvm.MethodName)
abbrev Yn65 : Jvm.MethodName := ({ cls := "java/util/HashMap", name := "putVal", desc := "(ILjava/lang/Object;Ljava/lang/Object;ZZ)Ljava/lang/Object;" } : Jvm.MethodName)
abbrev Yn66 : Jvm.MethodName := ({ cls := "java/util/HashMap", name := "put", desc := "(Ljava/lang/Object;Ljava/lang/Object;)Ljava/lang/Object;" } : Jvm.MethodName)
abbrev Yn67 : Jvm.MethodName := ({ cls := "java/util/AbstractMap", name := "<init>", desc := "()V" } : Jvm.MethodName)
abbrev Yn68 : Jvm.MethodName := ({ cls := "java/util/HashMap", name := "<init>", desc := "()V" } : Jvm.MethodName)
abbrev Yn69 : Jvm.MethodName := ({ cls := "java/util/ImmutableCollections$AbstractImmutableSet", name := "<init>", desc := "()V" } : Jvm.MethodName)
abbrev Yn70 : Jvm.MethodName := ({ cls := "java/util/ImmutableCollections$Set12", name := "<init>", desc := "(Ljava/lang/Object;Ljava/lang/Object;)V" } : Jvm.MethodName)
abbrev Yn71 : Jvm.MethodName := ({ cls := "java/util/Set", name := "of", desc := "(Ljava/lang/Object;Ljava/lang/Object;)Ljava/util/Set;" } : Jvm.MethodName)
abbrev Yn72 : Jvm.MethodName := ({ cls := "java/util/ImmutableCollections$Set12", name := "contains", desc := "(Ljava/lang/Object;)Z" } : Jvm.MethodName)
abbrev Yn73 : Jvm.MethodName := ({ cls := "java/util/Optional", name := "<init>", desc := "(Ljava/lang/Object;)V" } : Jvm.MethodName)
abbrev Yn74 : Jvm.MethodName := ({ cls := "java/util/Optional", name := "isEmpty", desc := "()Z" } : Jvm.MethodName)
abbrev Yn75 : Jvm.MethodName := ({ cls := "java/util/Optional", name := "orElseThrow", desc := "(Ljava/util/function/Supplier;)Ljava/lang/Object;" } : Jvm.MethodName)
abbrev Yn76 : Jvm.MethodName := ({ cls := "jdk/internal/util/ArraysSupport", name := "mismatch", desc := "([BI[BII)I" } : Jvm.MethodName)
abbrev Yn77 : Jvm.MethodName := ({ cls := "java/lang/String", name := "startsWith", desc := "(Ljava/lang/String;I)Z" } : Jvm.MethodName)
abbrev Yn78 : Jvm.MethodName := ({ cls := "java/lang/String", name := "startsWith", desc := "(Ljava/lang/String;)Z" } : Jvm.MethodName)
abbrev Yn79 : Jvm.MethodName := ({ cls := "java/lang/StringLatin1", name := "canEncode", desc := "(I)Z" } : Jvm.MethodName)
abbrev Yn80 : Jvm.MethodName := ({ cls := "java/lang/StringLatin1", name := "indexOfChar", desc := "([BIII)I" } : Jvm.MethodName)
abbrev Yn81 : Jvm.MethodName := ({ cls := "java/lang/StringLatin1", name := "indexOf", desc := "([BIII)I" } : Jvm.MethodName)
abbrev Yn82 : Jvm.MethodName := ({ cls := "jdk/internal/util/Preconditions", name := "checkFromToIndex", desc := "(IIILjava/util/function/BiFunction;)I" } : Jvm.MethodName)
abbrev Yn83 : Jvm.MethodName := ({ cls := "java/lang/String", name := "checkBoundsBeginEnd", desc := "(III)V" } : Jvm.MethodName)
abbrev Yn84 : Jvm.MethodName := ({ cls := "java/lang/String", name := "indexOf", desc := "(II)I" } : Jvm.MethodName)
abbrev Yn85 : Jvm.MethodName := ({ cls := "java/lang/String", name := "indexOf", desc := "(I)I" } : Jvm.MethodName)
abbrev Yn86 : Jvm.MethodName := ({ cls := "java/util/Arrays", name := "copyOfRange", desc := "([BII)[B" } : Jvm.MethodName)
abbrev Yn87 : Jvm.MethodName := ({ cls := "java/lang/StringLatin1", name := "newString", desc := "([BII)Ljava/lang/String;" } : Jvm.MethodName)
abbrev Yn88 : Jvm.MethodName := ({ cls := "java/lang/String", name := "substring", desc := "(I)Ljava/lang/String;" } : Jvm.MethodName)
abbrev Yn89 : Jvm.MethodName := ({ cls := "com/example/hand_balancer/handbalancer/cli/Arguments", name := "<init>", desc := "()V" } : Jvm.MethodName)
abbrev Yn90 : Jvm.MethodName := ({ cls := "com/example/hand_balancer/handbalancer/cli/Arguments", name := "parse", desc := "(Ljava/util/List;Ljava/util/Set;)Lcom/example/hand_balancer/handbalancer/cli/Arguments;" } : Jvm.MethodName)
abbrev Yn91 : Jvm.MethodName := ({ cls := "java/util/ImmutableCollections$List12", name := "<init>", desc := "(Ljava/lang/Object;)V" } : Jvm.MethodName)
abbrev Yn92 : Jvm.MethodName := ({ cls := "java/util/ImmutableCollections$List12", name := "<init>", desc := "(Ljava/lang/Object;Ljava/lang/Object;)V" } : Jvm.MethodName)
abbrev Yn93 : Jvm.MethodName := ({ cls := "java/util/ImmutableCollections$ListN", name := "<init>", desc := "([Ljava/lang/Object;Z)V" } : Jvm.MethodName)
abbrev Yn94 : Jvm.MethodName := ({ cls := "java/util/ImmutableCollections", name := "listFromArray", desc := "([Ljava/lang/Object;)Ljava/util/List;" } : Jvm.MethodName)
abbrev Yn95 : Jvm.MethodName := ({ cls := "java/util/List", name := "of", desc := "([Ljava/lang/Object;)Ljava/util/List;" } : Jvm.MethodName)
abbrev Yn96 : Jvm.MethodName := ({ cls := "java/util/Arrays", name := "copyOf", desc := "([Ljava/lang/Object;ILjava/lang/Class;)[Ljava/lang/Object;" } : Jvm.MethodName)
abbrev Yn97 : Jvm.MethodName := ({ cls := "java/util/Arrays", name := "copyOf", desc := "([Ljava/lang/Object;I)[Ljava/lang/Object;" } : Jvm.MethodName)
abbrev Yn98 : Jvm.MethodName := ({ cls := "java/util/ArrayList", name := "toArray", desc := "()[Ljava/lang/Object;" } : Jvm.MethodName)
abbrev Yn99 : Jvm.MethodName := ({ cls := "java/util/List", name := "of", desc := "()Ljava/util/List;" } : Jvm.MethodName)
abbrev Yn100 : Jvm.MethodName := ({ cls := "java/util/ImmutableCollections", name := "listCopy", desc := "(Ljava/util/Collection;)Ljava/util/List;" } : Jvm.MethodName)
abbrev Yn101 : Jvm.MethodName := ({ cls := "java/util/List", name := "copyOf", desc := "(Ljava/util/Collection;)Ljava/util/List;" } : Jvm.MethodName)
abbrev Yn102 : Jvm.MethodName := ({ cls := "com/example/hand_balancer/handbalancer/cli/Arguments", name := "operands", desc := "(ILjava/lang/String;)Ljava/util/List;" } : Jvm.MethodName)
abbrev Yn103 : Jvm.MethodName := ({ cls := "com/example/hand_balancer/handbalancer/cli/Arguments", name := "milliseconds", desc := "(Ljava/lang/String;Ljava/time/Duration;J)Ljava/time/Duration;" } : Jvm.MethodName)
abbrev Yn104 : Jvm.MethodName := ({ cls := "com/example/hand_balancer/handbalancer/cli/Arguments", name := "required", desc := "(Ljava/lang/String;Ljava/lang/String;)Ljava/lang/String;" } : Jvm.MethodName)
abbrev Yn105 : Jvm.MethodName := ({ cls := "java/lang/Object", name := "getClass", desc := "()Ljava/lang/Class;" } : Jvm.MethodName)
abbrev Sn0 : String := "java/lang/String"
abbrev Sn1 : String := "java/util/HashMap"
abbrev Sn2 : String := "java/util/ArrayList"
abbrev Sn3 : String := "java/util/ImmutableCollections$List12"
abbrev Sn4 : String := "com/example/hand_balancer/handbalancer/cli/Arguments"
abbrev Sn5 : String := "java/util/ImmutableCollections$ListN"
abbrev Sn6 : String := "com/example/hand_balancer/handbalancer/cli/ArgumentsParsePinLaw"
abbrev Sn7 : String := "Ljava/lang/Object;"
abbrev Sn8 : String := "java/util/HashMap$Node"
abbrev Sn9 : String := "java/util/ImmutableCollections$Set12"
abbrev Sn10 : String := "java/util/List"
abbrev Sn11 : String := "java/lang/Object"
abbrev Sn12 : String := "java/util/Optional"
abbrev Sn13 : String := "[Ljava/lang/Object;"
abbrev Sn14 : String := "java/util/ImmutableCollections"
abbrev Sn15 : String := "java/util/Arrays"
abbrev Sn16 : String := "(I)Ljava/lang/Object;"
abbrev Sn17 : String := "java/util/AbstractList"
abbrev Bn0 : ByteArray := prog_1_method_2_code
abbrev Bn1 : ByteArray := jdk_69_method_16_code
abbrev Bn2 : ByteArray := jdk_69_method_13_code
abbrev Bn3 : ByteArray := jdk_42_method_75_code
abbrev Bn4 : ByteArray := jdk_69_method_17_code
abbrev Bn5 : ByteArray := jdk_42_method_149_code
abbrev Bn6 : ByteArray := jdk_42_method_66_code
abbrev Bn7 : ByteArray := jdk_52_method_21_code
abbrev Bn8 : ByteArray := jdk_43_method_13_code
abbrev Bn9 : ByteArray := jdk_48_method_14_code
abbrev Bn10 : ByteArray := jdk_56_method_4_code
abbrev Bn11 : ByteArray := jdk_42_method_92_code
abbrev Bn12 : ByteArray := jdk_65_method_133_code
abbrev Bn13 : ByteArray := jdk_48_method_5_code
abbrev Bn14 : ByteArray := jdk_42_method_78_code
abbrev Bn15 : ByteArray := jdk_43_method_22_code
abbrev Bn16 : ByteArray := jdk_40_method_47_code
abbrev Bn17 : ByteArray := jdk_38_method_6_code
abbrev Bn18 : ByteArray := jdk_43_method_23_code
abbrev Bn19 : ByteArray := jdk_38_method_24_code
abbrev Bn20 : ByteArray := jdk_65_method_120_code
abbrev Bn21 : ByteArray := jdk_43_method_21_code
abbrev Bn22 : ByteArray := jdk_52_method_16_code
abbrev Bn23 : ByteArray := jdk_38_method_25_code
abbrev Bn24 : ByteArray := jdk_44_method_5_code
abbrev Bn25 : ByteArray := jdk_70_method_1_code
abbrev Bn26 : ByteArray := jdk_43_method_47_code
abbrev Bn27 : ByteArray := jdk_56_method_3_code
abbrev Bn28 : ByteArray := jdk_101_method_2_code
abbrev Bn29 : ByteArray := jdk_101_method_5_code
abbrev Bn30 : ByteArray := prog_1_method_1_code
abbrev Bn31 : ByteArray := jdk_69_method_12_code
abbrev Bn32 : ByteArray := jdk_69_method_1_code
abbrev Bn33 : ByteArray := jdk_42_method_139_code
abbrev Bn34 : ByteArray := jdk_42_method_80_code
abbrev Bn35 : ByteArray := jdk_65_method_132_code
abbrev Bn36 : ByteArray := jdk_44_method_2_code
abbrev Bn37 : ByteArray := jdk_42_method_151_code
abbrev Bn38 : ByteArray := jdk_32_method_4_code
abbrev Bn39 : ByteArray := jdk_38_method_20_code
abbrev Bn40 : ByteArray := jdk_42_method_154_code
abbrev Bn41 : ByteArray := jdk_48_method_4_code
abbrev Bn42 : ByteArray := jdk_41_method_12_code
abbrev Bn43 : ByteArray := jdk_44_method_1_code
abbrev Bn44 : ByteArray := jdk_42_method_3_code
abbrev Bn45 : ByteArray := jdk_52_method_15_code
abbrev Bn46 : ByteArray := jdk_44_method_3_code
abbrev Bn47 : ByteArray := jdk_69_method_15_code
abbrev Bn48 : ByteArray := jdk_45_method_1_code
abbrev Bn49 : ByteArray := prog_1_method_3_code
abbrev Bn50 : ByteArray := prog_1_method_6_code
abbrev Bn51 : ByteArray := prog_1_method_7_code
abbrev Bn52 : ByteArray := prog_1_method_5_code
abbrev Bn53 : ByteArray := jdk_38_method_7_code
abbrev Bn54 : ByteArray := jdk_29_method_65_code
abbrev Bn55 : ByteArray := jdk_42_method_54_code
abbrev Bn56 : ByteArray := jdk_29_method_69_code
abbrev Bn57 : ByteArray := jdk_43_method_46_code
abbrev Bn58 : ByteArray := jdk_69_method_46_code
abbrev Bn59 : ByteArray := jdk_43_method_4_code
abbrev Bn60 : ByteArray := jdk_38_method_2_code
abbrev Bn61 : ByteArray := jdk_42_method_152_code
abbrev Bn62 : ByteArray := jdk_41_method_11_code
abbrev Bn63 : ByteArray := jdk_43_method_3_code
abbrev Bn64 : ByteArray := jdk_38_method_9_code
abbrev Bn65 : ByteArray := jdk_42_method_158_code
abbrev Bn66 : ByteArray := jdk_45_method_4_code
abbrev Bn67 : ByteArray := jdk_39_method_1_code
abbrev Bn68 : ByteArray := jdk_69_method_7_code
abbrev Bn69 : ByteArray := jdk_96_method_19_code
abbrev Bn70 : ByteArray := jdk_32_method_2_code
abbrev Bn71 : ByteArray := jdk_32_method_7_code
abbrev Bn72 : ByteArray := jdk_32_method_18_code
abbrev Bn73 : ByteArray := jdk_42_method_91_code
abbrev Bn74 : ByteArray := jdk_65_method_119_code
abbrev Bn75 : ByteArray := jdk_38_method_16_code
abbrev Bn76 : ByteArray := jdk_31_method_10_code
abbrev Bn77 : ByteArray := jdk_45_method_3_code
abbrev Bn78 : ByteArray := jdk_65_method_131_code
abbrev Bn79 : ByteArray := jdk_31_method_17_code
abbrev Bn80 : ByteArray := jdk_38_method_18_code
abbrev Bn81 : ByteArray := jdk_42_method_76_code
abbrev Bn82 : ByteArray := jdk_42_method_79_code
abbrev Bn83 : ByteArray := jdk_22_method_1_code
abbrev Bn84 : ByteArray := jdk_47_method_1_code
abbrev Bn85 : ByteArray := jdk_38_method_8_code
abbrev Bn86 : ByteArray := jdk_46_method_1_code
abbrev Bn87 : ByteArray := jdk_71_method_1_code
abbrev Bn88 : ByteArray := jdk_100_method_1_code
abbrev Bn89 : ByteArray := jdk_40_method_48_code
abbrev Bn90 : ByteArray := jdk_40_method_36_code
section Words
variable {a0 : Array Value} {Z : State}
abbrev o_8 (a0 : Array Value) (Z : State) : Prop := ∀ d ∈ tables_1, d.before a0 Z = true
theorem o_0 {c : Jvm.Cond} (hw : o_8 a0 Z) (i : Nat) (e : tables_1[i]? = some c) : c.before a0 Z = true := hw _ (List.mem_of_getElem? e)
theorem tw_2 (hw : o_8 a0 Z) : (Cond.initialized Sn0).before a0 Z = true := o_0 hw 2 rfl
theorem tw_4 (hw : o_8 a0 Z) : (Cond.fieldLink Sn0 38 Sn0 "COMPACT_STRINGS" "Z").before a0 Z = true := o_0 hw 4 rfl
theorem tw_7 (hw : o_8 a0 Z) : (Cond.initialized "java/lang/StringLatin1").before a0 Z = true := o_0 hw 7 rfl
theorem tw_9 (hw : o_8 a0 Z) : (Cond.classLink Sn0 10 Sn0).before a0 Z = true := o_0 hw 9 rfl
theorem tw_10 (hw : o_8 a0 Z) : (Cond.instantiable Sn0 4).before a0 Z = true := o_0 hw 10 rfl
theorem tw_14 (hw : o_8 a0 Z) : (Cond.arrayClass FieldType.byte).before a0 Z = true := o_0 hw 14 rfl
theorem tw_16 (hw : o_8 a0 Z) : (Cond.instanceMethod Yn35).before a0 Z = true := o_0 hw 16 rfl
theorem tw_18 (hw : o_8 a0 Z) : (Cond.code Yn35 Bn37 3 (Option.none : Option FieldType)).before a0 Z = true := o_0 hw 18 rfl
theorem tw_19 (hw : o_8 a0 Z) : (Cond.methodLink Sn0 1 Yn36).before a0 Z = true := o_0 hw 19 rfl
theorem tw_20 (hw : o_8 a0 Z) : (Cond.instanceMethod Yn36).before a0 Z = true := o_0 hw 20 rfl
theorem tw_21 (hw : o_8 a0 Z) : (Cond.code Yn36 object_method_1_code 1 (Option.none : Option FieldType)).before a0 Z = true := o_0 hw 21 rfl
theorem tw_22 (hw : o_8 a0 Z) : (Cond.fieldLink Sn0 9 Sn0 "value" "[B").before a0 Z = true := o_0 hw 22 rfl
theorem tw_23 (hw : o_8 a0 Z) : (Cond.laysFinal Sn0 Sn0 "value" "[B").before a0 Z = true := o_0 hw 23 rfl
theorem tw_24 (hw : o_8 a0 Z) : (Cond.fieldLink Sn0 15 Sn0 "coder" "B").before a0 Z = true := o_0 hw 24 rfl
theorem tw_25 (hw : o_8 a0 Z) : (Cond.laysFinal Sn0 Sn0 "coder" "B").before a0 Z = true := o_0 hw 25 rfl
theorem tw_26 (hw : o_8 a0 Z) : (Cond.classLink Sn6 13 Sn0).before a0 Z = true := o_0 hw 26 rfl
theorem tw_27 (hw : o_8 a0 Z) : (Cond.arrayClass FieldType.char).before a0 Z = true := o_0 hw 27 rfl
theorem tw_28 (hw : o_8 a0 Z) : (Cond.methodLink Sn6 15 Yn16).before a0 Z = true := o_0 hw 28 rfl
theorem tw_29 (hw : o_8 a0 Z) : (Cond.instanceMethod Yn16).before a0 Z = true := o_0 hw 29 rfl
theorem tw_30 (hw : o_8 a0 Z) : (Cond.code Yn16 Bn44 2 (Option.none : Option FieldType)).before a0 Z = true := o_0 hw 30 rfl
theorem tw_31 (hw : o_8 a0 Z) : (Cond.methodLink Sn0 27 Yn17).before a0 Z = true := o_0 hw 31 rfl
theorem tw_32 (hw : o_8 a0 Z) : (Cond.instanceMethod Yn17).before a0 Z = true := o_0 hw 32 rfl
theorem tw_33 (hw : o_8 a0 Z) : (Cond.code Yn17 Bn5 6 (Option.none : Option FieldType)).before a0 Z = true := o_0 hw 33 rfl
theorem tw_34 (hw : o_8 a0 Z) : (Cond.methodLink Sn0 177 Yn18).before a0 Z = true := o_0 hw 34 rfl
theorem tw_35 (hw : o_8 a0 Z) : (Cond.static Yn18).before a0 Z = true := o_0 hw 35 rfl
theorem tw_36 (hw : o_8 a0 Z) : (Cond.initialized "java/lang/StringUTF16").before a0 Z = true := o_0 hw 36 rfl
theorem tw_37 (hw : o_8 a0 Z) : (Cond.code Yn18 Bn22 6 (Option.some (FieldType.array FieldType.byte))).before a0 Z = true := o_0 hw 37 rfl
theorem tw_38 (hw : o_8 a0 Z) : (Cond.methodLink "java/lang/StringUTF16" 115 Yn19).before a0 Z = true := o_0 hw 38 rfl
theorem tw_39 (hw : o_8 a0 Z) : (Cond.static Yn19).before a0 Z = true := o_0 hw 39 rfl
theorem tw_40 (hw : o_8 a0 Z) : (Cond.code Yn19 Bn7 7 (Option.some FieldType.int)).before a0 Z = true := o_0 hw 40 rfl
theorem tw_41 (hw : o_8 a0 Z) : (Cond.methodLink Sn0 47 Yn20).before a0 Z = true := o_0 hw 41 rfl
theorem tw_42 (hw : o_8 a0 Z) : (Cond.static Yn20).before a0 Z = true := o_0 hw 42 rfl
theorem tw_43 (hw : o_8 a0 Z) : (Cond.code Yn20 Bn45 2 (Option.some FieldType.byte)).before a0 Z = true := o_0 hw 43 rfl
theorem tw_44 (hw : o_8 a0 Z) : (Cond.methodLink Sn6 38 Yn21).before a0 Z = true := o_0 hw 44 rfl
theorem tw_45 (hw : o_8 a0 Z) : (Cond.static Yn21).before a0 Z = true := o_0 hw 45 rfl
theorem tw_46 (hw : o_8 a0 Z) : (Cond.initialized Sn6).before a0 Z = true := o_0 hw 46 rfl
theorem tw_47 (hw : o_8 a0 Z) : (Cond.code Yn21 method_5_code 6 (Option.some (FieldType.object Sn0))).before a0 Z = true := o_0 hw 47 rfl
theorem tw_48 (hw : o_8 a0 Z) : (Cond.methodLink Sn6 7 Yn22).before a0 Z = true := o_0 hw 48 rfl
theorem tw_49 (hw : o_8 a0 Z) : (Cond.static Yn22).before a0 Z = true := o_0 hw 49 rfl
theorem tw_50 (hw : o_8 a0 Z) : (Cond.code Yn22 method_2_code 1 (Option.some FieldType.int)).before a0 Z = true := o_0 hw 50 rfl
theorem tw_54 (hw : o_8 a0 Z) : (Cond.methodLink Sn6 42 Yn23).before a0 Z = true := o_0 hw 54 rfl
theorem tw_55 (hw : o_8 a0 Z) : (Cond.static Yn23).before a0 Z = true := o_0 hw 55 rfl
theorem tw_56 (hw : o_8 a0 Z) : (Cond.code Yn23 method_3_code 1 (Option.some FieldType.boolean)).before a0 Z = true := o_0 hw 56 rfl
theorem tw_57 (hw : o_8 a0 Z) : (Cond.methodLink Sn6 46 Yn24).before a0 Z = true := o_0 hw 57 rfl
theorem tw_58 (hw : o_8 a0 Z) : (Cond.static Yn24).before a0 Z = true := o_0 hw 58 rfl
theorem tw_59 (hw : o_8 a0 Z) : (Cond.code Yn24 method_4_code 1 (Option.some FieldType.int)).before a0 Z = true := o_0 hw 59 rfl
theorem tw_61 (hw : o_8 a0 Z) : (Cond.instantiable Sn2 3).before a0 Z = true := o_0 hw 61 rfl
theorem tw_62 (hw : o_8 a0 Z) : (Cond.initialized Sn2).before a0 Z = true := o_0 hw 62 rfl
theorem tw_64 (hw : o_8 a0 Z) : (Cond.instanceMethod Yn37).before a0 Z = true := o_0 hw 64 rfl
theorem tw_65 (hw : o_8 a0 Z) : (Cond.code Yn37 Bn60 1 (Option.none : Option FieldType)).before a0 Z = true := o_0 hw 65 rfl
theorem tw_73 (hw : o_8 a0 Z) : (Cond.instanceMethod Yn38).before a0 Z = true := o_0 hw 73 rfl
theorem tw_76 (hw : o_8 a0 Z) : (Cond.initialized "java/util/AbstractCollection").before a0 Z = true := o_0 hw 76 rfl
theorem tw_77 (hw : o_8 a0 Z) : (Cond.code Yn38 Bn83 1 (Option.none : Option FieldType)).before a0 Z = true := o_0 hw 77 rfl
theorem tw_80 (hw : o_8 a0 Z) : (Cond.lays Sn2 Sn17 "modCount" "I").before a0 Z = true := o_0 hw 80 rfl
theorem tw_81 (hw : o_8 a0 Z) : (Cond.fieldLink Sn2 39 Sn2 "DEFAULTCAPACITY_EMPTY_ELEMENTDATA" Sn13).before a0 Z = true := o_0 hw 81 rfl
theorem tw_82 (hw : o_8 a0 Z) : (Cond.fieldLink Sn2 9 Sn2 "elementData" Sn13).before a0 Z = true := o_0 hw 82 rfl
theorem tw_83 (hw : o_8 a0 Z) : (Cond.lays Sn2 Sn2 "elementData" Sn13).before a0 Z = true := o_0 hw 83 rfl
theorem tw_89 (hw : o_8 a0 Z) : (Cond.instantiable Sn9 2).before a0 Z = true := o_0 hw 89 rfl
theorem tw_90 (hw : o_8 a0 Z) : (Cond.initialized Sn9).before a0 Z = true := o_0 hw 90 rfl
theorem tw_102 (hw : o_8 a0 Z) : (Cond.instanceMethod Yn39).before a0 Z = true := o_0 hw 102 rfl
theorem tw_105 (hw : o_8 a0 Z) : (Cond.initialized "java/util/ImmutableCollections$AbstractImmutableCollection").before a0 Z = true := o_0 hw 105 rfl
theorem tw_106 (hw : o_8 a0 Z) : (Cond.code Yn39 Bn84 1 (Option.none : Option FieldType)).before a0 Z = true := o_0 hw 106 rfl
theorem tw_110 (hw : o_8 a0 Z) : (Cond.static Yn7).before a0 Z = true := o_0 hw 110 rfl
theorem tw_111 (hw : o_8 a0 Z) : (Cond.initialized "java/util/Objects").before a0 Z = true := o_0 hw 111 rfl
theorem tw_112 (hw : o_8 a0 Z) : (Cond.code Yn7 Bn76 1 (Option.some (FieldType.object Sn11))).before a0 Z = true := o_0 hw 112 rfl
theorem tw_113 (hw : o_8 a0 Z) : (Cond.methodLink Sn9 27 Yn44).before a0 Z = true := o_0 hw 113 rfl
theorem tw_114 (hw : o_8 a0 Z) : (Cond.declares Yn44).before a0 Z = true := o_0 hw 114 rfl
theorem tw_116 (hw : o_8 a0 Z) : (Cond.selects Sn0 Yn44 Yn0).before a0 Z = true := o_0 hw 116 rfl
theorem tw_117 (hw : o_8 a0 Z) : (Cond.instanceMethod Yn0).before a0 Z = true := o_0 hw 117 rfl
theorem tw_118 (hw : o_8 a0 Z) : (Cond.code Yn0 Bn6 3 (Option.some FieldType.boolean)).before a0 Z = true := o_0 hw 118 rfl
theorem tw_122 (hw : o_8 a0 Z) : (Cond.fieldLink Sn9 13 Sn9 "e0" Sn7).before a0 Z = true := o_0 hw 122 rfl
theorem tw_123 (hw : o_8 a0 Z) : (Cond.laysFinal Sn9 Sn9 "e0" Sn7).before a0 Z = true := o_0 hw 123 rfl
theorem tw_124 (hw : o_8 a0 Z) : (Cond.fieldLink Sn9 24 Sn9 "e1" Sn7).before a0 Z = true := o_0 hw 124 rfl
theorem tw_125 (hw : o_8 a0 Z) : (Cond.laysFinal Sn9 Sn9 "e1" Sn7).before a0 Z = true := o_0 hw 125 rfl
theorem tw_128 (hw : o_8 a0 Z) : (Cond.initialized Sn4).before a0 Z = true := o_0 hw 128 rfl
theorem tw_131 (hw : o_8 a0 Z) : (Cond.instantiable Sn4 2).before a0 Z = true := o_0 hw 131 rfl
theorem tw_138 (hw : o_8 a0 Z) : (Cond.fieldLink Sn4 10 Sn4 "operands" "Ljava/util/List;").before a0 Z = true := o_0 hw 138 rfl
theorem tw_139 (hw : o_8 a0 Z) : (Cond.laysFinal Sn4 Sn4 "operands" "Ljava/util/List;").before a0 Z = true := o_0 hw 139 rfl
theorem tw_141 (hw : o_8 a0 Z) : (Cond.instantiable Sn1 8).before a0 Z = true := o_0 hw 141 rfl
theorem tw_142 (hw : o_8 a0 Z) : (Cond.initialized Sn1).before a0 Z = true := o_0 hw 142 rfl
theorem tw_155 (hw : o_8 a0 Z) : (Cond.laysFinal Sn1 Sn1 "loadFactor" "F").before a0 Z = true := o_0 hw 155 rfl
theorem tw_156 (hw : o_8 a0 Z) : (Cond.fieldLink Sn4 19 Sn4 "options" "Ljava/util/Map;").before a0 Z = true := o_0 hw 156 rfl
theorem tw_157 (hw : o_8 a0 Z) : (Cond.laysFinal Sn4 Sn4 "options" "Ljava/util/Map;").before a0 Z = true := o_0 hw 157 rfl
theorem tw_158 (hw : o_8 a0 Z) : (Cond.methodLink Sn4 24 Yn25).before a0 Z = true := o_0 hw 158 rfl
theorem tw_159 (hw : o_8 a0 Z) : (Cond.declares Yn25).before a0 Z = true := o_0 hw 159 rfl
theorem tw_160 (hw : o_8 a0 Z) : (Cond.interfaceMethod Sn10 Sn10 "size" "()I").before a0 Z = true := o_0 hw 160 rfl
theorem tw_161 (hw : o_8 a0 Z) : (Cond.selects Sn2 Yn25 Yn8).before a0 Z = true := o_0 hw 161 rfl
theorem tw_162 (hw : o_8 a0 Z) : (Cond.instanceMethod Yn8).before a0 Z = true := o_0 hw 162 rfl
theorem tw_163 (hw : o_8 a0 Z) : (Cond.publicMethod Yn8).before a0 Z = true := o_0 hw 163 rfl
theorem tw_164 (hw : o_8 a0 Z) : (Cond.unhidden Sn2 "size" "()I").before a0 Z = true := o_0 hw 164 rfl
theorem tw_165 (hw : o_8 a0 Z) : (Cond.castable Sn2 Sn10).before a0 Z = true := o_0 hw 165 rfl
theorem tw_166 (hw : o_8 a0 Z) : (Cond.code Yn8 Bn85 1 (Option.some FieldType.int)).before a0 Z = true := o_0 hw 166 rfl
theorem tw_167 (hw : o_8 a0 Z) : (Cond.fieldLink Sn2 48 Sn2 "size" "I").before a0 Z = true := o_0 hw 167 rfl
theorem tw_168 (hw : o_8 a0 Z) : (Cond.lays Sn2 Sn2 "size" "I").before a0 Z = true := o_0 hw 168 rfl
theorem tw_178 (hw : o_8 a0 Z) : (Cond.initialized Sn10).before a0 Z = true := o_0 hw 178 rfl
theorem tw_182 (hw : o_8 a0 Z) : (Cond.initialized Sn14).before a0 Z = true := o_0 hw 182 rfl
theorem tw_185 (hw : o_8 a0 Z) : (Cond.superclass Sn2 Sn17).before a0 Z = true := o_0 hw 185 rfl
theorem tw_188 (hw : o_8 a0 Z) : (Cond.noSuperclass Sn11).before a0 Z = true := o_0 hw 188 rfl
theorem tw_189 (hw : o_8 a0 Z) : (Cond.classLink Sn14 12 Sn5).before a0 Z = true := o_0 hw 189 rfl
theorem tw_197 (hw : o_8 a0 Z) : (Cond.castable Sn2 "java/util/Collection").before a0 Z = true := o_0 hw 197 rfl
theorem tw_203 (hw : o_8 a0 Z) : (Cond.methodLink Sn6 77 Yn25).before a0 Z = true := o_0 hw 203 rfl
theorem tw_204 (hw : o_8 a0 Z) : (Cond.selects Sn5 Yn25 Yn9).before a0 Z = true := o_0 hw 204 rfl
theorem tw_205 (hw : o_8 a0 Z) : (Cond.instanceMethod Yn9).before a0 Z = true := o_0 hw 205 rfl
theorem tw_206 (hw : o_8 a0 Z) : (Cond.publicMethod Yn9).before a0 Z = true := o_0 hw 206 rfl
theorem tw_207 (hw : o_8 a0 Z) : (Cond.unhidden Sn5 "size" "()I").before a0 Z = true := o_0 hw 207 rfl
theorem tw_208 (hw : o_8 a0 Z) : (Cond.castable Sn5 Sn10).before a0 Z = true := o_0 hw 208 rfl
theorem tw_209 (hw : o_8 a0 Z) : (Cond.initialized Sn5).before a0 Z = true := o_0 hw 209 rfl
theorem tw_210 (hw : o_8 a0 Z) : (Cond.code Yn9 Bn77 1 (Option.some FieldType.int)).before a0 Z = true := o_0 hw 210 rfl
theorem tw_211 (hw : o_8 a0 Z) : (Cond.fieldLink Sn5 7 Sn5 "elements" Sn13).before a0 Z = true := o_0 hw 211 rfl
theorem tw_212 (hw : o_8 a0 Z) : (Cond.laysFinal Sn5 Sn5 "elements" Sn13).before a0 Z = true := o_0 hw 212 rfl
theorem tw_213 (hw : o_8 a0 Z) : (Cond.methodLink Sn6 85 Yn26).before a0 Z = true := o_0 hw 213 rfl
theorem tw_214 (hw : o_8 a0 Z) : (Cond.static Yn26).before a0 Z = true := o_0 hw 214 rfl
theorem tw_215 (hw : o_8 a0 Z) : (Cond.code Yn26 method_7_code 4 (Option.some FieldType.boolean)).before a0 Z = true := o_0 hw 215 rfl
theorem tw_221 (hw : o_8 a0 Z) : (Cond.methodLink Sn4 104 Yn1).before a0 Z = true := o_0 hw 221 rfl
theorem tw_222 (hw : o_8 a0 Z) : (Cond.declares Yn1).before a0 Z = true := o_0 hw 222 rfl
theorem tw_223 (hw : o_8 a0 Z) : (Cond.instanceMethod Yn1).before a0 Z = true := o_0 hw 223 rfl
theorem tw_224 (hw : o_8 a0 Z) : (Cond.selects Sn4 Yn1 Yn1).before a0 Z = true := o_0 hw 224 rfl
theorem tw_225 (hw : o_8 a0 Z) : (Cond.code Yn1 Bn52 2 (Option.some (FieldType.object Sn12))).before a0 Z = true := o_0 hw 225 rfl
theorem tw_226 (hw : o_8 a0 Z) : (Cond.methodLink Sn4 95 Yn45).before a0 Z = true := o_0 hw 226 rfl
theorem tw_227 (hw : o_8 a0 Z) : (Cond.declares Yn45).before a0 Z = true := o_0 hw 227 rfl
theorem tw_228 (hw : o_8 a0 Z) : (Cond.interfaceMethod "java/util/Map" "java/util/Map" "get" "(Ljava/lang/Object;)Ljava/lang/Object;").before a0 Z = true := o_0 hw 228 rfl
theorem tw_229 (hw : o_8 a0 Z) : (Cond.selects Sn1 Yn45 Yn10).before a0 Z = true := o_0 hw 229 rfl
theorem tw_230 (hw : o_8 a0 Z) : (Cond.instanceMethod Yn10).before a0 Z = true := o_0 hw 230 rfl
theorem tw_231 (hw : o_8 a0 Z) : (Cond.publicMethod Yn10).before a0 Z = true := o_0 hw 231 rfl
theorem tw_232 (hw : o_8 a0 Z) : (Cond.unhidden Sn1 "get" "(Ljava/lang/Object;)Ljava/lang/Object;").before a0 Z = true := o_0 hw 232 rfl
theorem tw_233 (hw : o_8 a0 Z) : (Cond.castable Sn1 "java/util/Map").before a0 Z = true := o_0 hw 233 rfl
theorem tw_234 (hw : o_8 a0 Z) : (Cond.code Yn10 Bn31 3 (Option.some (FieldType.object Sn11))).before a0 Z = true := o_0 hw 234 rfl
theorem tw_235 (hw : o_8 a0 Z) : (Cond.methodLink Sn1 158 Yn2).before a0 Z = true := o_0 hw 235 rfl
theorem tw_236 (hw : o_8 a0 Z) : (Cond.declares Yn2).before a0 Z = true := o_0 hw 236 rfl
theorem tw_237 (hw : o_8 a0 Z) : (Cond.instanceMethod Yn2).before a0 Z = true := o_0 hw 237 rfl
theorem tw_238 (hw : o_8 a0 Z) : (Cond.selects Sn1 Yn2 Yn2).before a0 Z = true := o_0 hw 238 rfl
theorem tw_239 (hw : o_8 a0 Z) : (Cond.code Yn2 Bn2 8 (Option.some (FieldType.object Sn8))).before a0 Z = true := o_0 hw 239 rfl
theorem tw_240 (hw : o_8 a0 Z) : (Cond.fieldLink Sn1 105 Sn1 "table" "[Ljava/util/HashMap$Node;").before a0 Z = true := o_0 hw 240 rfl
theorem tw_241 (hw : o_8 a0 Z) : (Cond.lays Sn1 Sn1 "table" "[Ljava/util/HashMap$Node;").before a0 Z = true := o_0 hw 241 rfl
theorem tw_242 (hw : o_8 a0 Z) : (Cond.methodLink Sn4 98 Yn27).before a0 Z = true := o_0 hw 242 rfl
theorem tw_243 (hw : o_8 a0 Z) : (Cond.static Yn27).before a0 Z = true := o_0 hw 243 rfl
theorem tw_244 (hw : o_8 a0 Z) : (Cond.initialized Sn12).before a0 Z = true := o_0 hw 244 rfl
theorem tw_245 (hw : o_8 a0 Z) : (Cond.code Yn27 Bn38 1 (Option.some (FieldType.object Sn12))).before a0 Z = true := o_0 hw 245 rfl
theorem tw_252 (hw : o_8 a0 Z) : (Cond.fieldLink Sn12 13 Sn12 "value" Sn7).before a0 Z = true := o_0 hw 252 rfl
theorem tw_253 (hw : o_8 a0 Z) : (Cond.laysFinal Sn12 Sn12 "value" Sn7).before a0 Z = true := o_0 hw 253 rfl
theorem tw_254 (hw : o_8 a0 Z) : (Cond.methodLink Sn6 52 Yn46).before a0 Z = true := o_0 hw 254 rfl
theorem tw_255 (hw : o_8 a0 Z) : (Cond.declares Yn46).before a0 Z = true := o_0 hw 255 rfl
theorem tw_256 (hw : o_8 a0 Z) : (Cond.interfaceMethod Sn10 Sn10 "add" "(Ljava/lang/Object;)Z").before a0 Z = true := o_0 hw 256 rfl
theorem tw_257 (hw : o_8 a0 Z) : (Cond.selects Sn2 Yn46 Yn11).before a0 Z = true := o_0 hw 257 rfl
theorem tw_258 (hw : o_8 a0 Z) : (Cond.instanceMethod Yn11).before a0 Z = true := o_0 hw 258 rfl
theorem tw_259 (hw : o_8 a0 Z) : (Cond.publicMethod Yn11).before a0 Z = true := o_0 hw 259 rfl
theorem tw_260 (hw : o_8 a0 Z) : (Cond.unhidden Sn2 "add" "(Ljava/lang/Object;)Z").before a0 Z = true := o_0 hw 260 rfl
theorem tw_261 (hw : o_8 a0 Z) : (Cond.code Yn11 Bn23 2 (Option.some FieldType.boolean)).before a0 Z = true := o_0 hw 261 rfl
theorem tw_262 (hw : o_8 a0 Z) : (Cond.fieldLink Sn2 63 Sn2 "modCount" "I").before a0 Z = true := o_0 hw 262 rfl
theorem tw_263 (hw : o_8 a0 Z) : (Cond.sameField Sn2 Sn17 "modCount" "I").before a0 Z = true := o_0 hw 263 rfl
theorem tw_265 (hw : o_8 a0 Z) : (Cond.instanceMethod Yn40).before a0 Z = true := o_0 hw 265 rfl
theorem tw_268 (hw : o_8 a0 Z) : (Cond.code Yn40 Bn19 4 (Option.none : Option FieldType)).before a0 Z = true := o_0 hw 268 rfl
theorem tw_270 (hw : o_8 a0 Z) : (Cond.instanceMethod Yn41).before a0 Z = true := o_0 hw 270 rfl
theorem tw_273 (hw : o_8 a0 Z) : (Cond.code Yn41 Bn53 1 (Option.some (FieldType.array (FieldType.object Sn11)))).before a0 Z = true := o_0 hw 273 rfl
theorem tw_275 (hw : o_8 a0 Z) : (Cond.instanceMethod Yn42).before a0 Z = true := o_0 hw 275 rfl
theorem tw_278 (hw : o_8 a0 Z) : (Cond.code Yn42 Bn17 4 (Option.some (FieldType.array (FieldType.object Sn11)))).before a0 Z = true := o_0 hw 278 rfl
theorem tw_280 (hw : o_8 a0 Z) : (Cond.static Yn43).before a0 Z = true := o_0 hw 280 rfl
theorem tw_281 (hw : o_8 a0 Z) : (Cond.initialized "java/lang/Math").before a0 Z = true := o_0 hw 281 rfl
theorem tw_282 (hw : o_8 a0 Z) : (Cond.code Yn43 Bn54 2 (Option.some FieldType.int)).before a0 Z = true := o_0 hw 282 rfl
theorem tw_284 (hw : o_8 a0 Z) : (Cond.arrayOver (FieldType.object Sn11)).before a0 Z = true := o_0 hw 284 rfl
theorem tw_285 (hw : o_8 a0 Z) : (Cond.castable Sn0 Sn11).before a0 Z = true := o_0 hw 285 rfl
theorem tw_286 (hw : o_8 a0 Z) : (Cond.methodLink Sn6 57 Yn28).before a0 Z = true := o_0 hw 286 rfl
theorem tw_287 (hw : o_8 a0 Z) : (Cond.static Yn28).before a0 Z = true := o_0 hw 287 rfl
theorem tw_288 (hw : o_8 a0 Z) : (Cond.code Yn28 method_6_code 9 (Option.some (FieldType.object Sn0))).before a0 Z = true := o_0 hw 288 rfl
theorem tw_289 (hw : o_8 a0 Z) : (Cond.methodLink Sn4 30 Yn29).before a0 Z = true := o_0 hw 289 rfl
theorem tw_290 (hw : o_8 a0 Z) : (Cond.declares Yn29).before a0 Z = true := o_0 hw 290 rfl
theorem tw_291 (hw : o_8 a0 Z) : (Cond.interfaceMethod Sn10 Sn10 "get" Sn16).before a0 Z = true := o_0 hw 291 rfl
theorem tw_292 (hw : o_8 a0 Z) : (Cond.selects Sn2 Yn29 Yn12).before a0 Z = true := o_0 hw 292 rfl
theorem tw_293 (hw : o_8 a0 Z) : (Cond.instanceMethod Yn12).before a0 Z = true := o_0 hw 293 rfl
theorem tw_294 (hw : o_8 a0 Z) : (Cond.publicMethod Yn12).before a0 Z = true := o_0 hw 294 rfl
theorem tw_295 (hw : o_8 a0 Z) : (Cond.unhidden Sn2 "get" Sn16).before a0 Z = true := o_0 hw 295 rfl
theorem tw_296 (hw : o_8 a0 Z) : (Cond.code Yn12 Bn39 2 (Option.some (FieldType.object Sn11))).before a0 Z = true := o_0 hw 296 rfl
theorem tw_302 (hw : o_8 a0 Z) : (Cond.initialized "jdk/internal/util/Preconditions").before a0 Z = true := o_0 hw 302 rfl
theorem tw_309 (hw : o_8 a0 Z) : (Cond.classLink Sn4 34 Sn0).before a0 Z = true := o_0 hw 309 rfl
theorem tw_321 (hw : o_8 a0 Z) : (Cond.methodLink Sn0 505 Yn3).before a0 Z = true := o_0 hw 321 rfl
theorem tw_322 (hw : o_8 a0 Z) : (Cond.declares Yn3).before a0 Z = true := o_0 hw 322 rfl
theorem tw_323 (hw : o_8 a0 Z) : (Cond.instanceMethod Yn3).before a0 Z = true := o_0 hw 323 rfl
theorem tw_324 (hw : o_8 a0 Z) : (Cond.selects Sn0 Yn3 Yn3).before a0 Z = true := o_0 hw 324 rfl
theorem tw_325 (hw : o_8 a0 Z) : (Cond.code Yn3 Bn55 1 (Option.some FieldType.int)).before a0 Z = true := o_0 hw 325 rfl
theorem tw_326 (hw : o_8 a0 Z) : (Cond.methodLink Sn0 335 Yn4).before a0 Z = true := o_0 hw 326 rfl
theorem tw_327 (hw : o_8 a0 Z) : (Cond.declares Yn4).before a0 Z = true := o_0 hw 327 rfl
theorem tw_328 (hw : o_8 a0 Z) : (Cond.instanceMethod Yn4).before a0 Z = true := o_0 hw 328 rfl
theorem tw_329 (hw : o_8 a0 Z) : (Cond.selects Sn0 Yn4 Yn4).before a0 Z = true := o_0 hw 329 rfl
theorem tw_330 (hw : o_8 a0 Z) : (Cond.code Yn4 Bn61 1 (Option.some FieldType.byte)).before a0 Z = true := o_0 hw 330 rfl
theorem tw_334 (hw : o_8 a0 Z) : (Cond.initialized "jdk/internal/util/ArraysSupport").before a0 Z = true := o_0 hw 334 rfl
theorem tw_346 (hw : o_8 a0 Z) : (Cond.methodLink Sn0 492 Yn5).before a0 Z = true := o_0 hw 346 rfl
theorem tw_347 (hw : o_8 a0 Z) : (Cond.declares Yn5).before a0 Z = true := o_0 hw 347 rfl
theorem tw_348 (hw : o_8 a0 Z) : (Cond.instanceMethod Yn5).before a0 Z = true := o_0 hw 348 rfl
theorem tw_349 (hw : o_8 a0 Z) : (Cond.selects Sn0 Yn5 Yn5).before a0 Z = true := o_0 hw 349 rfl
theorem tw_350 (hw : o_8 a0 Z) : (Cond.code Yn5 Bn40 1 (Option.some FieldType.boolean)).before a0 Z = true := o_0 hw 350 rfl
theorem tw_359 (hw : o_8 a0 Z) : (Cond.static Yn30).before a0 Z = true := o_0 hw 359 rfl
theorem tw_360 (hw : o_8 a0 Z) : (Cond.code Yn30 Bn56 2 (Option.some FieldType.int)).before a0 Z = true := o_0 hw 360 rfl
theorem tw_365 (hw : o_8 a0 Z) : (Cond.declares Yn6).before a0 Z = true := o_0 hw 365 rfl
theorem tw_366 (hw : o_8 a0 Z) : (Cond.instanceMethod Yn6).before a0 Z = true := o_0 hw 366 rfl
theorem tw_367 (hw : o_8 a0 Z) : (Cond.selects Sn0 Yn6 Yn6).before a0 Z = true := o_0 hw 367 rfl
theorem tw_368 (hw : o_8 a0 Z) : (Cond.code Yn6 Bn11 5 (Option.some (FieldType.object Sn0))).before a0 Z = true := o_0 hw 368 rfl
theorem tw_382 (hw : o_8 a0 Z) : (Cond.initialized Sn15).before a0 Z = true := o_0 hw 382 rfl
theorem tw_384 (hw : o_8 a0 Z) : (Cond.methodLink Sn15 339 Yn31).before a0 Z = true := o_0 hw 384 rfl
theorem tw_385 (hw : o_8 a0 Z) : (Cond.static Yn31).before a0 Z = true := o_0 hw 385 rfl
theorem tw_386 (hw : o_8 a0 Z) : (Cond.code Yn31 Bn12 5 (Option.some (FieldType.array FieldType.byte))).before a0 Z = true := o_0 hw 386 rfl
theorem tw_387 (hw : o_8 a0 Z) : (Cond.methodLink Sn15 343 Yn32).before a0 Z = true := o_0 hw 387 rfl
theorem tw_388 (hw : o_8 a0 Z) : (Cond.static Yn32).before a0 Z = true := o_0 hw 388 rfl
theorem tw_389 (hw : o_8 a0 Z) : (Cond.code Yn32 Bn78 2 (Option.none : Option FieldType)).before a0 Z = true := o_0 hw 389 rfl
theorem tw_390 (hw : o_8 a0 Z) : (Cond.methodLink Sn15 304 Yn30).before a0 Z = true := o_0 hw 390 rfl
theorem tw_391 (hw : o_8 a0 Z) : (Cond.methodLink Sn15 150 Yn47).before a0 Z = true := o_0 hw 391 rfl
theorem tw_392 (hw : o_8 a0 Z) : (Cond.static Yn47).before a0 Z = true := o_0 hw 392 rfl
theorem tw_393 (hw : o_8 a0 Z) : (Cond.initialized "java/lang/System").before a0 Z = true := o_0 hw 393 rfl
theorem tw_394 (hw : o_8 a0 Z) : (Cond.native Yn47).before a0 Z = true := o_0 hw 394 rfl
theorem tw_420 (hw : o_8 a0 Z) : (Cond.methodLink Sn1 149 Yn33).before a0 Z = true := o_0 hw 420 rfl
theorem tw_421 (hw : o_8 a0 Z) : (Cond.static Yn33).before a0 Z = true := o_0 hw 421 rfl
theorem tw_422 (hw : o_8 a0 Z) : (Cond.code Yn33 Bn32 2 (Option.some FieldType.int)).before a0 Z = true := o_0 hw 422 rfl
theorem tw_429 (hw : o_8 a0 Z) : (Cond.fieldLink Sn0 19 Sn0 "hash" "I").before a0 Z = true := o_0 hw 429 rfl
theorem tw_430 (hw : o_8 a0 Z) : (Cond.lays Sn0 Sn0 "hash" "I").before a0 Z = true := o_0 hw 430 rfl
theorem tw_432 (hw : o_8 a0 Z) : (Cond.lays Sn0 Sn0 "hashIsZero" "Z").before a0 Z = true := o_0 hw 432 rfl
theorem tw_454 (hw : o_8 a0 Z) : (Cond.fieldLink Sn1 88 Sn1 "threshold" "I").before a0 Z = true := o_0 hw 454 rfl
theorem tw_455 (hw : o_8 a0 Z) : (Cond.lays Sn1 Sn1 "threshold" "I").before a0 Z = true := o_0 hw 455 rfl
theorem tw_456 (hw : o_8 a0 Z) : (Cond.classLink Sn1 163 Sn8).before a0 Z = true := o_0 hw 456 rfl
theorem tw_463 (hw : o_8 a0 Z) : (Cond.instantiable Sn8 4).before a0 Z = true := o_0 hw 463 rfl
theorem tw_464 (hw : o_8 a0 Z) : (Cond.initialized Sn8).before a0 Z = true := o_0 hw 464 rfl
theorem tw_471 (hw : o_8 a0 Z) : (Cond.laysFinal Sn8 Sn8 "hash" "I").before a0 Z = true := o_0 hw 471 rfl
theorem tw_473 (hw : o_8 a0 Z) : (Cond.laysFinal Sn8 Sn8 "key" Sn7).before a0 Z = true := o_0 hw 473 rfl
theorem tw_475 (hw : o_8 a0 Z) : (Cond.lays Sn8 Sn8 "value" Sn7).before a0 Z = true := o_0 hw 475 rfl
theorem tw_477 (hw : o_8 a0 Z) : (Cond.lays Sn8 Sn8 "next" "Ljava/util/HashMap$Node;").before a0 Z = true := o_0 hw 477 rfl
theorem tw_478 (hw : o_8 a0 Z) : (Cond.fieldLink Sn1 202 Sn1 "modCount" "I").before a0 Z = true := o_0 hw 478 rfl
theorem tw_479 (hw : o_8 a0 Z) : (Cond.lays Sn1 Sn1 "modCount" "I").before a0 Z = true := o_0 hw 479 rfl
theorem tw_480 (hw : o_8 a0 Z) : (Cond.fieldLink Sn1 156 Sn1 "size" "I").before a0 Z = true := o_0 hw 480 rfl
theorem tw_481 (hw : o_8 a0 Z) : (Cond.lays Sn1 Sn1 "size" "I").before a0 Z = true := o_0 hw 481 rfl
theorem tw_502 (hw : o_8 a0 Z) : (Cond.selects Sn13 Yn105 Yn105).before a0 Z = true := o_0 hw 502 rfl
theorem tw_517 (hw : o_8 a0 Z) : (Cond.methodLink Sn14 37 Yn7).before a0 Z = true := o_0 hw 517 rfl
theorem tw_518 (hw : o_8 a0 Z) : (Cond.instantiable Sn5 2).before a0 Z = true := o_0 hw 518 rfl
theorem tw_524 (hw : o_8 a0 Z) : (Cond.instanceMethod Yn34).before a0 Z = true := o_0 hw 524 rfl
theorem tw_527 (hw : o_8 a0 Z) : (Cond.initialized "java/util/ImmutableCollections$AbstractImmutableList").before a0 Z = true := o_0 hw 527 rfl
theorem tw_528 (hw : o_8 a0 Z) : (Cond.code Yn34 Bn86 1 (Option.none : Option FieldType)).before a0 Z = true := o_0 hw 528 rfl
theorem tw_533 (hw : o_8 a0 Z) : (Cond.laysFinal Sn5 Sn5 "allowNulls" "Z").before a0 Z = true := o_0 hw 533 rfl
theorem tw_534 (hw : o_8 a0 Z) : (Cond.methodLink Sn6 81 Yn29).before a0 Z = true := o_0 hw 534 rfl
theorem tw_535 (hw : o_8 a0 Z) : (Cond.selects Sn5 Yn29 Yn13).before a0 Z = true := o_0 hw 535 rfl
theorem tw_536 (hw : o_8 a0 Z) : (Cond.instanceMethod Yn13).before a0 Z = true := o_0 hw 536 rfl
theorem tw_537 (hw : o_8 a0 Z) : (Cond.publicMethod Yn13).before a0 Z = true := o_0 hw 537 rfl
theorem tw_538 (hw : o_8 a0 Z) : (Cond.unhidden Sn5 "get" Sn16).before a0 Z = true := o_0 hw 538 rfl
theorem tw_539 (hw : o_8 a0 Z) : (Cond.code Yn13 Bn66 2 (Option.some (FieldType.object Sn11))).before a0 Z = true := o_0 hw 539 rfl
theorem tw_540 (hw : o_8 a0 Z) : (Cond.methodLink Sn6 30 Yn0).before a0 Z = true := o_0 hw 540 rfl
theorem tw_541 (hw : o_8 a0 Z) : (Cond.declares Yn0).before a0 Z = true := o_0 hw 541 rfl
theorem tw_542 (hw : o_8 a0 Z) : (Cond.selects Sn0 Yn0 Yn0).before a0 Z = true := o_0 hw 542 rfl
theorem tw_554 (hw : o_8 a0 Z) : (Cond.instantiable Sn12 1).before a0 Z = true := o_0 hw 554 rfl
theorem tw_569 (hw : o_8 a0 Z) : (Cond.classLink Sn10 96 Sn3).before a0 Z = true := o_0 hw 569 rfl
theorem tw_570 (hw : o_8 a0 Z) : (Cond.instantiable Sn3 2).before a0 Z = true := o_0 hw 570 rfl
theorem tw_571 (hw : o_8 a0 Z) : (Cond.initialized Sn3).before a0 Z = true := o_0 hw 571 rfl
theorem tw_576 (hw : o_8 a0 Z) : (Cond.methodLink Sn3 1 Yn34).before a0 Z = true := o_0 hw 576 rfl
theorem tw_580 (hw : o_8 a0 Z) : (Cond.methodLink Sn3 7 Yn7).before a0 Z = true := o_0 hw 580 rfl
theorem tw_581 (hw : o_8 a0 Z) : (Cond.fieldLink Sn3 13 Sn3 "e0" Sn7).before a0 Z = true := o_0 hw 581 rfl
theorem tw_582 (hw : o_8 a0 Z) : (Cond.laysFinal Sn3 Sn3 "e0" Sn7).before a0 Z = true := o_0 hw 582 rfl
theorem tw_583 (hw : o_8 a0 Z) : (Cond.fieldLink Sn3 24 Sn3 "e1" Sn7).before a0 Z = true := o_0 hw 583 rfl
theorem tw_584 (hw : o_8 a0 Z) : (Cond.laysFinal Sn3 Sn3 "e1" Sn7).before a0 Z = true := o_0 hw 584 rfl
theorem tw_585 (hw : o_8 a0 Z) : (Cond.selects Sn3 Yn25 Yn14).before a0 Z = true := o_0 hw 585 rfl
theorem tw_586 (hw : o_8 a0 Z) : (Cond.instanceMethod Yn14).before a0 Z = true := o_0 hw 586 rfl
theorem tw_587 (hw : o_8 a0 Z) : (Cond.publicMethod Yn14).before a0 Z = true := o_0 hw 587 rfl
theorem tw_588 (hw : o_8 a0 Z) : (Cond.unhidden Sn3 "size" "()I").before a0 Z = true := o_0 hw 588 rfl
theorem tw_589 (hw : o_8 a0 Z) : (Cond.castable Sn3 Sn10).before a0 Z = true := o_0 hw 589 rfl
theorem tw_590 (hw : o_8 a0 Z) : (Cond.code Yn14 Bn46 1 (Option.some FieldType.int)).before a0 Z = true := o_0 hw 590 rfl
theorem tw_591 (hw : o_8 a0 Z) : (Cond.fieldLinkNest Sn3 19 Sn14 "EMPTY" Sn7 Sn14).before a0 Z = true := o_0 hw 591 rfl
theorem tw_592 (hw : o_8 a0 Z) : (Cond.selects Sn3 Yn29 Yn15).before a0 Z = true := o_0 hw 592 rfl
theorem tw_593 (hw : o_8 a0 Z) : (Cond.instanceMethod Yn15).before a0 Z = true := o_0 hw 593 rfl
theorem tw_594 (hw : o_8 a0 Z) : (Cond.publicMethod Yn15).before a0 Z = true := o_0 hw 594 rfl
theorem tw_595 (hw : o_8 a0 Z) : (Cond.unhidden Sn3 "get" Sn16).before a0 Z = true := o_0 hw 595 rfl
theorem tw_596 (hw : o_8 a0 Z) : (Cond.code Yn15 Bn24 2 (Option.some (FieldType.object Sn11))).before a0 Z = true := o_0 hw 596 rfl
theorem pd_0 : parseMethodDescriptor "([CI[BII)I" = some ⟨[(.array .char), .int, (.array .byte), .int, .int], some .int⟩ := by decide +kernel
theorem pd_1 : parseMethodDescriptor "([CII)[B" = some ⟨[(.array .char), .int, .int], some (.array .byte)⟩ := by decide +kernel
theorem pd_2 : parseMethodDescriptor "([BI)B" = some ⟨[(.array .byte), .int], some .byte⟩ := by decide +kernel
theorem pd_3 : parseMethodDescriptor "([CIILjava/lang/Void;)V" = some ⟨[(.array .char), .int, .int, (.object "java/lang/Void")], none⟩ := by decide +kernel
theorem pd_4 : parseMethodDescriptor "()B" = some ⟨[], some .byte⟩ := by decide +kernel
theorem pd_5 : parseMethodDescriptor "([B[B)Z" = some ⟨[(.array .byte), (.array .byte)], some .boolean⟩ := by decide +kernel
theorem pd_6 : parseMethodDescriptor "(C)Z" = some ⟨[.char], some .boolean⟩ := by decide +kernel
theorem pd_7 : parseMethodDescriptor "(C)[B" = some ⟨[.char], some (.array .byte)⟩ := by decide +kernel
theorem pd_8 : parseMethodDescriptor "([BB)V" = some ⟨[(.array .byte), .byte], none⟩ := by decide +kernel
theorem pd_9 : parseMethodDescriptor "(I[BII)I" = some ⟨[.int, (.array .byte), .int, .int], some .int⟩ := by decide +kernel
theorem pd_10 : parseMethodDescriptor "(Ljava/lang/Object;IIII)I" = some ⟨[(.object "java/lang/Object"), .int, .int, .int, .int], some .int⟩ := by decide +kernel
theorem pd_11 : parseMethodDescriptor "()Z" = some ⟨[], some .boolean⟩ := by decide +kernel
theorem pd_12 : parseMethodDescriptor "([B)I" = some ⟨[(.array .byte)], some .int⟩ := by decide +kernel
theorem pd_13 : parseMethodDescriptor "()I" = some ⟨[], some .int⟩ := by decide +kernel
theorem pd_14 : parseMethodDescriptor "()V" = some ⟨[], none⟩ := by decide +kernel
theorem pd_15 : parseMethodDescriptor "(IILjava/util/function/BiFunction;)I" = some ⟨[.int, .int, (.object "java/util/function/BiFunction")], some .int⟩ := by decide +kernel
theorem pd_16 : parseMethodDescriptor "(II)I" = some ⟨[.int, .int], some .int⟩ := by decide +kernel
theorem pd_17 : parseMethodDescriptor "(I)Ljava/lang/Object;" = some ⟨[.int], some (.object "java/lang/Object")⟩ := by decide +kernel
theorem pd_18 : parseMethodDescriptor "(I)[Ljava/lang/Object;" = some ⟨[.int], some (.array (.object "java/lang/Object"))⟩ := by decide +kernel
theorem pd_19 : parseMethodDescriptor "()[Ljava/lang/Object;" = some ⟨[], some (.array (.object "java/lang/Object"))⟩ := by decide +kernel
theorem pd_20 : parseMethodDescriptor "(Ljava/lang/Object;[Ljava/lang/Object;I)V" = some ⟨[(.object "java/lang/Object"), (.array (.object "java/lang/Object")), .int], none⟩ := by decide +kernel
theorem pd_21 : parseMethodDescriptor "(ILjava/lang/Object;Ljava/lang/Object;Ljava/util/HashMap$Node;)V" = some ⟨[.int, (.object "java/lang/Object"), (.object "java/lang/Object"), (.object "java/util/HashMap$Node")], none⟩ := by decide +kernel
theorem pd_22 : parseMethodDescriptor "(ILjava/lang/Object;Ljava/lang/Object;Ljava/util/HashMap$Node;)Ljava/util/HashMap$Node;" = some ⟨[.int, (.object "java/lang/Object"), (.object "java/lang/Object"), (.object "java/util/HashMap$Node")], some (.object "java/util/HashMap$Node")⟩ := by decide +kernel
theorem pd_23 : parseMethodDescriptor "(Z)V" = some ⟨[.boolean], none⟩ := by decide +kernel
theorem pd_24 : parseMethodDescriptor "()[Ljava/util/HashMap$Node;" = some ⟨[], some (.array (.object "java/util/HashMap$Node"))⟩ := by decide +kernel
theorem pd_25 : parseMethodDescriptor "(Ljava/lang/Object;)I" = some ⟨[(.object "java/lang/Object")], some .int⟩ := by decide +kernel
theorem pd_26 : parseMethodDescriptor "(ILjava/lang/Object;Ljava/lang/Object;ZZ)Ljava/lang/Object;" = some ⟨[.int, (.object "java/lang/Object"), (.object "java/lang/Object"), .boolean, .boolean], some (.object "java/lang/Object")⟩ := by decide +kernel
theorem pd_27 : parseMethodDescriptor "(Ljava/lang/Object;)Z" = some ⟨[(.object "java/lang/Object")], some .boolean⟩ := by decide +kernel
theorem pd_28 : parseMethodDescriptor "(Ljava/lang/Object;)Ljava/util/HashMap$Node;" = some ⟨[(.object "java/lang/Object")], some (.object "java/util/HashMap$Node")⟩ := by decide +kernel
theorem pd_29 : parseMethodDescriptor "(Ljava/lang/Object;)Ljava/lang/Object;" = some ⟨[(.object "java/lang/Object")], some (.object "java/lang/Object")⟩ := by decide +kernel
theorem pd_30 : parseMethodDescriptor "(Ljava/lang/Object;Ljava/lang/Object;)V" = some ⟨[(.object "java/lang/Object"), (.object "java/lang/Object")], none⟩ := by decide +kernel
theorem pd_31 : parseMethodDescriptor "(Ljava/lang/Object;)V" = some ⟨[(.object "java/lang/Object")], none⟩ := by decide +kernel
theorem pd_32 : parseMethodDescriptor "([C)V" = some ⟨[(.array .char)], none⟩ := by decide +kernel
theorem pd_33 : parseMethodDescriptor "(I)I" = some ⟨[.int], some .int⟩ := by decide +kernel
theorem pd_34 : parseMethodDescriptor "([BI[BII)I" = some ⟨[(.array .byte), .int, (.array .byte), .int, .int], some .int⟩ := by decide +kernel
theorem pd_35 : parseMethodDescriptor "(Ljava/lang/String;I)Z" = some ⟨[(.object "java/lang/String"), .int], some .boolean⟩ := by decide +kernel
theorem pd_36 : parseMethodDescriptor "(I)Z" = some ⟨[.int], some .boolean⟩ := by decide +kernel
theorem pd_37 : parseMethodDescriptor "([BIII)I" = some ⟨[(.array .byte), .int, .int, .int], some .int⟩ := by decide +kernel
theorem pd_38 : parseMethodDescriptor "(IIILjava/util/function/BiFunction;)I" = some ⟨[.int, .int, .int, (.object "java/util/function/BiFunction")], some .int⟩ := by decide +kernel
theorem pd_39 : parseMethodDescriptor "(II)V" = some ⟨[.int, .int], none⟩ := by decide +kernel
theorem pd_40 : parseMethodDescriptor "([BII)[B" = some ⟨[(.array .byte), .int, .int], some (.array .byte)⟩ := by decide +kernel
theorem pd_41 : parseMethodDescriptor "(III)V" = some ⟨[.int, .int, .int], none⟩ := by decide +kernel
theorem pd_42 : parseMethodDescriptor "([BII)Ljava/lang/String;" = some ⟨[(.array .byte), .int, .int], some (.object "java/lang/String")⟩ := by decide +kernel
theorem pd_43 : parseMethodDescriptor "(II)Ljava/lang/String;" = some ⟨[.int, .int], some (.object "java/lang/String")⟩ := by decide +kernel
theorem pd_44 : parseMethodDescriptor "(Ljava/lang/Object;)Ljava/util/Optional;" = some ⟨[(.object "java/lang/Object")], some (.object "java/util/Optional")⟩ := by decide +kernel
theorem pd_45 : parseMethodDescriptor "(Ljava/lang/String;)Z" = some ⟨[(.object "java/lang/String")], some .boolean⟩ := by decide +kernel
theorem pd_46 : parseMethodDescriptor "(Ljava/lang/Object;Ljava/lang/Object;)Ljava/lang/Object;" = some ⟨[(.object "java/lang/Object"), (.object "java/lang/Object")], some (.object "java/lang/Object")⟩ := by decide +kernel
theorem pd_47 : parseMethodDescriptor "(I)Ljava/lang/String;" = some ⟨[.int], some (.object "java/lang/String")⟩ := by decide +kernel
theorem pd_48 : parseMethodDescriptor "([Ljava/lang/Object;Z)V" = some ⟨[(.array (.object "java/lang/Object")), .boolean], none⟩ := by decide +kernel
theorem pd_49 : parseMethodDescriptor "([Ljava/lang/Object;)Ljava/util/List;" = some ⟨[(.array (.object "java/lang/Object"))], some (.object "java/util/List")⟩ := by decide +kernel
theorem pd_50 : parseMethodDescriptor "([Ljava/lang/Object;ILjava/lang/Class;)[Ljava/lang/Object;" = some ⟨[(.array (.object "java/lang/Object")), .int, (.object "java/lang/Class")], some (.array (.object "java/lang/Object"))⟩ := by decide +kernel
theorem pd_51 : parseMethodDescriptor "([Ljava/lang/Object;I)[Ljava/lang/Object;" = some ⟨[(.array (.object "java/lang/Object")), .int], some (.array (.object "java/lang/Object"))⟩ := by decide +kernel
theorem pd_52 : parseMethodDescriptor "()Ljava/util/List;" = some ⟨[], some (.object "java/util/List")⟩ := by decide +kernel
theorem pd_53 : parseMethodDescriptor "(Ljava/util/Collection;)Ljava/util/List;" = some ⟨[(.object "java/util/Collection")], some (.object "java/util/List")⟩ := by decide +kernel
theorem pd_54 : parseMethodDescriptor "(Ljava/lang/String;)Ljava/util/Optional;" = some ⟨[(.object "java/lang/String")], some (.object "java/util/Optional")⟩ := by decide +kernel
theorem pd_55 : parseMethodDescriptor "(Ljava/util/function/Supplier;)Ljava/lang/Object;" = some ⟨[(.object "java/util/function/Supplier")], some (.object "java/lang/Object")⟩ := by decide +kernel
theorem pd_56 : parseMethodDescriptor "(Ljava/lang/String;Ljava/time/Duration;J)Ljava/time/Duration;" = some ⟨[(.object "java/lang/String"), (.object "java/time/Duration"), .long], some (.object "java/time/Duration")⟩ := by decide +kernel
theorem pd_57 : parseMethodDescriptor "(Ljava/lang/String;Ljava/lang/String;)Ljava/lang/String;" = some ⟨[(.object "java/lang/String"), (.object "java/lang/String")], some (.object "java/lang/String")⟩ := by decide +kernel
theorem pd_58 : parseMethodDescriptor "(C)Ljava/lang/String;" = some ⟨[.char], some (.object "java/lang/String")⟩ := by decide +kernel
theorem pd_59 : parseMethodDescriptor "(IZ)Ljava/lang/String;" = some ⟨[.int, .boolean], some (.object "java/lang/String")⟩ := by decide +kernel
theorem pd_60 : parseMethodDescriptor "(Ljava/lang/Object;Ljava/lang/Object;)Ljava/util/Set;" = some ⟨[(.object "java/lang/Object"), (.object "java/lang/Object")], some (.object "java/util/Set")⟩ := by decide +kernel
theorem pd_61 : parseMethodDescriptor "(Ljava/util/List;Ljava/util/Set;)Lcom/example/hand_balancer/handbalancer/cli/Arguments;" = some ⟨[(.object "java/util/List"), (.object "java/util/Set")], some (.object "com/example/hand_balancer/handbalancer/cli/Arguments")⟩ := by decide +kernel
theorem pd_62 : parseMethodDescriptor "(ILjava/lang/String;)Ljava/util/List;" = some ⟨[.int, (.object "java/lang/String")], some (.object "java/util/List")⟩ := by decide +kernel
theorem pd_63 : parseMethodDescriptor "(Lcom/example/hand_balancer/handbalancer/cli/Arguments;Ljava/lang/String;ILjava/lang/String;)Z" = some ⟨[(.object "com/example/hand_balancer/handbalancer/cli/Arguments"), (.object "java/lang/String"), .int, (.object "java/lang/String")], some .boolean⟩ := by decide +kernel
theorem pd_64 : parseMethodDescriptor "(ZZI)Ljava/lang/String;" = some ⟨[.boolean, .boolean, .int], some (.object "java/lang/String")⟩ := by decide +kernel
theorem o_84 {K : o_b} {M : o_7} {Q : o_0g} {sf : List Addr} {h : Heap} (hpn : plainFor M.y = true) (hm : M.mx = 0) (k : o_3 K M Q 0 [] [] sf h 0 0) : o_9 K M #[] sf h Q := o_12 hpn (fun m => by rw [hm]; simp [entryFrame, mkF, argsToLocals, List.replicate, Array.replicate]) k
theorem o_x {K : o_b} {M : o_7} {Q : o_0g} {sf : List Addr} {h : Heap} {v0 : Value} (hpn : plainFor M.y = true) (hm : M.mx = 1) (c0 : v0.category = 1) (k : o_3 K M Q 0 [.val v0] [] sf h 0 0) : o_9 K M #[v0] sf h Q := o_12 hpn (fun m => by rw [hm]; simp [entryFrame, mkF, argsToLocals, c0, List.replicate, Array.replicate]) k
theorem o_3f {K : o_b} {M : o_7} {Q : o_0g} {sf : List Addr} {h : Heap} {v0 : Value} (hpn : plainFor M.y = true) (hm : M.mx = 2) (c0 : v0.category = 1) (k : o_3 K M Q 0 [.val v0, .unset] [] sf h 0 0) : o_9 K M #[v0] sf h Q := o_12 hpn (fun m => by rw [hm]; simp [entryFrame, mkF, argsToLocals, c0, List.replicate, Array.replicate]) k
theorem o_85 {K : o_b} {M : o_7} {Q : o_0g} {sf : List Addr} {h : Heap} {v0 : Value} (hpn : plainFor M.y = true) (hm : M.mx = 3) (c0 : v0.category = 1) (k : o_3 K M Q 0 [.val v0, .unset, .unset] [] sf h 0 0) : o_9 K M #[v0] sf h Q := o_12 hpn (fun m => by rw [hm]; simp [entryFrame, mkF, argsToLocals, c0, List.replicate, Array.replicate]) k
theorem o_7t {K : o_b} {M : o_7} {Q : o_0g} {sf : List Addr} {h : Heap} {v0 : Value} (hpn : plainFor M.y = true) (hm : M.mx = 14) (c0 : v0.category = 1) (k : o_3 K M Q 0 [.val v0, .unset, .unset, .unset, .unset, .unset, .unset, .unset, .unset, .unset, .unset, .unset, .unset, .unset] [] sf h 0 0) : o_9 K M #[v0] sf h Q := o_12 hpn (fun m => by rw [hm]; simp [entryFrame, mkF, argsToLocals, c0, List.replicate, Array.replicate]) k
theorem o_08 {K : o_b} {M : o_7} {Q : o_0g} {sf : List Addr} {h : Heap} {v0 v1 : Value} (hpn : plainFor M.y = true) (hm : M.mx = 2) (c0 : v0.category = 1) (c1 : v1.category = 1) (k : o_3 K M Q 0 [.val v0, .val v1] [] sf h 0 0) : o_9 K M #[v0, v1] sf h Q := o_12 hpn (fun m => by rw [hm]; simp [entryFrame, mkF, argsToLocals, c0, c1, List.replicate, Array.replicate]) k
theorem o_4h {K : o_b} {M : o_7} {Q : o_0g} {sf : List Addr} {h : Heap} {v0 v1 : Value} (hpn : plainFor M.y = true) (hm : M.mx = 3) (c0 : v0.category = 1) (c1 : v1.category = 1) (k : o_3 K M Q 0 [.val v0, .val v1, .unset] [] sf h 0 0) : o_9 K M #[v0, v1] sf h Q := o_12 hpn (fun m => by rw [hm]; simp [entryFrame, mkF, argsToLocals, c0, c1, List.replicate, Array.replicate]) k
theorem o_86 {K : o_b} {M : o_7} {Q : o_0g} {sf : List Addr} {h : Heap} {v0 v1 : Value} (hpn : plainFor M.y = true) (hm : M.mx = 4) (c0 : v0.category = 1) (c1 : v1.category = 1) (k : o_3 K M Q 0 [.val v0, .val v1, .unset, .unset] [] sf h 0 0) : o_9 K M #[v0, v1] sf h Q := o_12 hpn (fun m => by rw [hm]; simp [entryFrame, mkF, argsToLocals, c0, c1, List.replicate, Array.replicate]) k
theorem o_87 {K : o_b} {M : o_7} {Q : o_0g} {sf : List Addr} {h : Heap} {v0 v1 : Value} (hpn : plainFor M.y = true) (hm : M.mx = 6) (c0 : v0.category = 1) (c1 : v1.category = 1) (k : o_3 K M Q 0 [.val v0, .val v1, .unset, .unset, .unset, .unset] [] sf h 0 0) : o_9 K M #[v0, v1] sf h Q := o_12 hpn (fun m => by rw [hm]; simp [entryFrame, mkF, argsToLocals, c0, c1, List.replicate, Array.replicate]) k
theorem o_5a {K : o_b} {M : o_7} {Q : o_0g} {sf : List Addr} {h : Heap} {v0 v1 : Value} (hpn : plainFor M.y = true) (hm : M.mx = 8) (c0 : v0.category = 1) (c1 : v1.category = 1) (k : o_3 K M Q 0 [.val v0, .val v1, .unset, .unset, .unset, .unset, .unset, .unset] [] sf h 0 0) : o_9 K M #[v0, v1] sf h Q := o_12 hpn (fun m => by rw [hm]; simp [entryFrame, mkF, argsToLocals, c0, c1, List.replicate, Array.replicate]) k
theorem o_1d {K : o_b} {M : o_7} {Q : o_0g} {sf : List Addr} {h : Heap} {v0 v1 v2 : Value} (hpn : plainFor M.y = true) (hm : M.mx = 3) (c0 : v0.category = 1) (c1 : v1.category = 1) (c2 : v2.category = 1) (k : o_3 K M Q 0 [.val v0, .val v1, .val v2] [] sf h 0 0) : o_9 K M #[v0, v1, v2] sf h Q := o_12 hpn (fun m => by rw [hm]; simp [entryFrame, mkF, argsToLocals, c0, c1, c2, List.replicate, Array.replicate]) k
theorem o_88 {K : o_b} {M : o_7} {Q : o_0g} {sf : List Addr} {h : Heap} {v0 v1 v2 : Value} (hpn : plainFor M.y = true) (hm : M.mx = 4) (c0 : v0.category = 1) (c1 : v1.category = 1) (c2 : v2.category = 1) (k : o_3 K M Q 0 [.val v0, .val v1, .val v2, .unset] [] sf h 0 0) : o_9 K M #[v0, v1, v2] sf h Q := o_12 hpn (fun m => by rw [hm]; simp [entryFrame, mkF, argsToLocals, c0, c1, c2, List.replicate, Array.replicate]) k
theorem o_5b {K : o_b} {M : o_7} {Q : o_0g} {sf : List Addr} {h : Heap} {v0 v1 v2 : Value} (hpn : plainFor M.y = true) (hm : M.mx = 5) (c0 : v0.category = 1) (c1 : v1.category = 1) (c2 : v2.category = 1) (k : o_3 K M Q 0 [.val v0, .val v1, .val v2, .unset, .unset] [] sf h 0 0) : o_9 K M #[v0, v1, v2] sf h Q := o_12 hpn (fun m => by rw [hm]; simp [entryFrame, mkF, argsToLocals, c0, c1, c2, List.replicate, Array.replicate]) k
theorem o_60 {K : o_b} {M : o_7} {Q : o_0g} {sf : List Addr} {h : Heap} {v0 v1 v2 : Value} (hpn : plainFor M.y = true) (hm : M.mx = 6) (c0 : v0.category = 1) (c1 : v1.category = 1) (c2 : v2.category = 1) (k : o_3 K M Q 0 [.val v0, .val v1, .val v2, .unset, .unset, .unset] [] sf h 0 0) : o_9 K M #[v0, v1, v2] sf h Q := o_12 hpn (fun m => by rw [hm]; simp [entryFrame, mkF, argsToLocals, c0, c1, c2, List.replicate, Array.replicate]) k
theorem o_89 {K : o_b} {M : o_7} {Q : o_0g} {sf : List Addr} {h : Heap} {v0 v1 v2 : Value} (hpn : plainFor M.y = true) (hm : M.mx = 8) (c0 : v0.category = 1) (c1 : v1.category = 1) (c2 : v2.category = 1) (k : o_3 K M Q 0 [.val v0, .val v1, .val v2, .unset, .unset, .unset, .unset, .unset] [] sf h 0 0) : o_9 K M #[v0, v1, v2] sf h Q := o_12 hpn (fun m => by rw [hm]; simp [entryFrame, mkF, argsToLocals, c0, c1, c2, List.replicate, Array.replicate]) k
theorem o_8a {K : o_b} {M : o_7} {Q : o_0g} {sf : List Addr} {h : Heap} {v0 v1 v2 : Value} (hpn : plainFor M.y = true) (hm : M.mx = 9) (c0 : v0.category = 1) (c1 : v1.category = 1) (c2 : v2.category = 1) (k : o_3 K M Q 0 [.val v0, .val v1, .val v2, .unset, .unset, .unset, .unset, .unset, .unset] [] sf h 0 0) : o_9 K M #[v0, v1, v2] sf h Q := o_12 hpn (fun m => by rw [hm]; simp [entryFrame, mkF, argsToLocals, c0, c1, c2, List.replicate, Array.replicate]) k
theorem o_3g {K : o_b} {M : o_7} {Q : o_0g} {sf : List Addr} {h : Heap} {v0 v1 v2 v3 : Value} (hpn : plainFor M.y = true) (hm : M.mx = 4) (c0 : v0.category = 1) (c1 : v1.category = 1) (c2 : v2.category = 1) (c3 : v3.category = 1) (k : o_3 K M Q 0 [.val v0, .val v1, .val v2, .val v3] [] sf h 0 0) : o_9 K M #[v0, v1, v2, v3] sf h Q := o_12 hpn (fun m => by rw [hm]; simp [entryFrame, mkF, argsToLocals, c0, c1, c2, c3, List.replicate, Array.replicate]) k
theorem o_61 {K : o_b} {M : o_7} {Q : o_0g} {sf : List Addr} {h : Heap} {v0 v1 v2 v3 : Value} (hpn : plainFor M.y = true) (hm : M.mx = 6) (c0 : v0.category = 1) (c1 : v1.category = 1) (c2 : v2.category = 1) (c3 : v3.category = 1) (k : o_3 K M Q 0 [.val v0, .val v1, .val v2, .val v3, .unset, .unset] [] sf h 0 0) : o_9 K M #[v0, v1, v2, v3] sf h Q := o_12 hpn (fun m => by rw [hm]; simp [entryFrame, mkF, argsToLocals, c0, c1, c2, c3, List.replicate, Array.replicate]) k
theorem o_5c {K : o_b} {M : o_7} {Q : o_0g} {sf : List Addr} {h : Heap} {v0 v1 v2 v3 v4 : Value} (hpn : plainFor M.y = true) (hm : M.mx = 5) (c0 : v0.category = 1) (c1 : v1.category = 1) (c2 : v2.category = 1) (c3 : v3.category = 1) (c4 : v4.category = 1) (k : o_3 K M Q 0 [.val v0, .val v1, .val v2, .val v3, .val v4] [] sf h 0 0) : o_9 K M #[v0, v1, v2, v3, v4] sf h Q := o_12 hpn (fun m => by rw [hm]; simp [entryFrame, mkF, argsToLocals, c0, c1, c2, c3, c4, List.replicate, Array.replicate]) k
theorem o_62 {K : o_b} {M : o_7} {Q : o_0g} {sf : List Addr} {h : Heap} {v0 v1 v2 v3 v4 : Value} (hpn : plainFor M.y = true) (hm : M.mx = 6) (c0 : v0.category = 1) (c1 : v1.category = 1) (c2 : v2.category = 1) (c3 : v3.category = 1) (c4 : v4.category = 1) (k : o_3 K M Q 0 [.val v0, .val v1, .val v2, .val v3, .val v4, .unset] [] sf h 0 0) : o_9 K M #[v0, v1, v2, v3, v4] sf h Q := o_12 hpn (fun m => by rw [hm]; simp [entryFrame, mkF, argsToLocals, c0, c1, c2, c3, c4, List.replicate, Array.replicate]) k
theorem o_8b {K : o_b} {M : o_7} {Q : o_0g} {sf : List Addr} {h : Heap} {v0 v1 v2 v3 v4 : Value} (hpn : plainFor M.y = true) (hm : M.mx = 7) (c0 : v0.category = 1) (c1 : v1.category = 1) (c2 : v2.category = 1) (c3 : v3.category = 1) (c4 : v4.category = 1) (k : o_3 K M Q 0 [.val v0, .val v1, .val v2, .val v3, .val v4, .unset, .unset] [] sf h 0 0) : o_9 K M #[v0, v1, v2, v3, v4] sf h Q := o_12 hpn (fun m => by rw [hm]; simp [entryFrame, mkF, argsToLocals, c0, c1, c2, c3, c4, List.replicate, Array.replicate]) k
theorem o_8c {K : o_b} {M : o_7} {Q : o_0g} {sf : List Addr} {h : Heap} {v0 v1 v2 v3 v4 : Value} (hpn : plainFor M.y = true) (hm : M.mx = 8) (c0 : v0.category = 1) (c1 : v1.category = 1) (c2 : v2.category = 1) (c3 : v3.category = 1) (c4 : v4.category = 1) (k : o_3 K M Q 0 [.val v0, .val v1, .val v2, .val v3, .val v4, .unset, .unset, .unset] [] sf h 0 0) : o_9 K M #[v0, v1, v2, v3, v4] sf h Q := o_12 hpn (fun m => by rw [hm]; simp [entryFrame, mkF, argsToLocals, c0, c1, c2, c3, c4, List.replicate, Array.replicate]) k
theorem o_8d {K : o_b} {M : o_7} {Q : o_0g} {sf : List Addr} {h : Heap} {v0 v1 v2 v3 v4 v5 : Value} (hpn : plainFor M.y = true) (hm : M.mx = 13) (c0 : v0.category = 1) (c1 : v1.category = 1) (c2 : v2.category = 1) (c3 : v3.category = 1) (c4 : v4.category = 1) (c5 : v5.category = 1) (k : o_3 K M Q 0 [.val v0, .val v1, .val v2, .val v3, .val v4, .val v5, .unset, .unset, .unset, .unset, .unset, .unset, .unset] [] sf h 0 0) : o_9 K M #[v0, v1, v2, v3, v4, v5] sf h Q := o_12 hpn (fun m => by rw [hm]; simp [entryFrame, mkF, argsToLocals, c0, c1, c2, c3, c4, c5, List.replicate, Array.replicate]) k
theorem o_7u {K : o_b} {M : o_7} {Q : o_0g} {sf : List Addr} {h : Heap} {v0 v1 v2 v3 v4 v5 : Value} (hpn : plainFor M.y = true) (hm : M.mx = 26) (c0 : v0.category = 1) (c1 : v1.category = 1) (c2 : v2.category = 1) (c3 : v3.category = 1) (c4 : v4.category = 1) (c5 : v5.category = 1) (k : o_3 K M Q 0 [.val v0, .val v1, .val v2, .val v3, .val v4, .val v5, .unset, .unset, .unset, .unset, .unset, .unset, .unset, .unset, .unset, .unset, .unset, .unset, .unset, .unset, .unset, .unset, .unset, .unset, .unset, .unset] [] sf h 0 0) : o_9 K M #[v0, v1, v2, v3, v4, v5] sf h Q := o_12 hpn (fun m => by rw [hm]; simp [entryFrame, mkF, argsToLocals, c0, c1, c2, c3, c4, c5, List.replicate, Array.replicate]) k
end Words
/-! STRINGS: chars as ints of 0 to 65535; what a String's bytes spell -/
abbrev o_0i (cs : List Int32) : Prop := ∀ c ∈ cs, 0 ≤ c.toInt ∧ c.toInt < 65536
def o_n (cs : List Int32) : Bool := cs.all fun c => decide (c.toInt < 256)
def o_04 (c : Int32) : Int32 := c.toInt8.toInt32
def o_36 (c : Int32) : Int32 := (c >>> ((8 : Int32) &&& 31)).toInt8.toInt32
def o_2m (cs : List Int32) : List Int32 := cs.flatMap fun c => [o_04 c, o_36 c]
def o_1r (cs : List Int32) : List Int32 := if o_n cs then cs.map o_04 else o_2m cs
def o_1z (cs : List Int32) : Int32 := if o_n cs then 0 else 1
abbrev o_p (xs : List Int32) : List Value := xs.map Value.int
def o_h (Z : State) (h : Heap) (a : Addr) (cs : List Int32) : Prop := Exa Z h a "java/lang/String" ∧ o_0i cs ∧ cs.length < 2 ^ 30 ∧ ∃ b : Addr, Fld Z h a "java/lang/String" "value" "[B" (.ref b) ∧ Fld Z h a "java/lang/String" "coder" "B" (.int (o_1z cs)) ∧ o_g Z h b .byte (o_p (o_1r cs))
theorem o_h.ext {Z : State} {h h' : Heap} {a : Addr} {cs : List Int32} (F : o_h Z h a cs) (E : Ext h h') : o_h Z h' a cs := by
  obtain ⟨h1, h2, h3, b, h4, h5, h6⟩ := F
  exact ⟨h1.ext E, h2, h3, b, h4.ext E, h5.ext E, h6.ext E⟩
theorem o_h.keepO {Z : State} {h h' : Heap} {a t : Addr} {cs : List Int32} {C : String} {kk : Nat} {a0 : Array Value} (F : o_h Z h a cs) (k : Keep h h' [t]) (E : Exa Z h t C) (hC : C ≠ "java/lang/String") (wi : (Jvm.Cond.instantiable C kk).before a0 Z = true) : o_h Z h' a cs := by
  obtain ⟨h1, h2, h3, b, h4, h5, h6⟩ := F
  have n1 : a ∉ [t] := ninS (ne_exa h1 E (Ne.symm hC)) nin0
  have n2 : b ∉ [t] := ninS (fun q => by obtain ⟨c, A, -⟩ := h6; exact ne_arr E wi A q.symm) nin0
  exact ⟨h1.keep k, h2, h3, b, h4.keep k n1, h5.keep k n1, h6.keep k n2⟩
theorem o_h.lt {Z : State} {h : Heap} {a : Addr} {cs : List Int32} (F : o_h Z h a cs) : a < h.size := F.1.lt
theorem o_f {h0 h h' : Heap} {ws : List Addr} (E : Ext h0 h) (k : Keep h h' ws) (q : ∀ x ∈ ws, h0.size ≤ x) : Ext h0 h' :=
  ⟨Nat.le_trans E.1 k.1, fun x c z => k.2.1 x c (E.2 x c z) fun m => by
    have := q x m
    have := (Array.getElem?_eq_some_iff.mp z).1
    omega⟩
theorem o_0o (n : Nat) (q : n < 2 ^ 31) : (n.toInt32).toInt = n := Int32.toInt_ofNat_small q
theorem o_20 {x y : Int32} {a b : Int} (hx : x.toInt = a) (hy : y.toInt = b) (h1 : -2147483648 ≤ a + b) (h2 : a + b < 2147483648) : (x + y).toInt = a + b := by
  have := c_iadd x y
  have := rng32 (x + y)
  omega
theorem o_4b {x y : Int32} {a b : Int} (hx : x.toInt = a) (hy : y.toInt = b) (h1 : -2147483648 ≤ a - b) (h2 : a - b < 2147483648) : (x - y).toInt = a - b := by
  have := c_isub x y
  have := rng32 (x - y)
  omega
theorem o_6h {α : Type} (L : List α) (z v : α) (k : Nat) : (L ++ List.replicate (k + 1) z).set L.length v = (L ++ [v]) ++ List.replicate k z := by
  simp [List.replicate_succ]
theorem o_5g (c : Int32) : nar .byte (c.toInt8.toInt32) = o_04 c := by
  show (c.toInt8.toInt32).toInt8.toInt32 = c.toInt8.toInt32
  simp
theorem o_2l {cs : List Int32} (q : o_n cs = true) {i : Nat} {c : Int32} (hc : cs[i]? = some c) : c.toInt < 256 := by
  have := List.all_eq_true.mp q c (List.mem_of_getElem? hc)
  simpa using this
theorem o_7v {cs : List Int32} {i : Nat} {c : Int32} (hc : cs[i]? = some c) (q : o_n (cs.take i) = true) (hl : c.toInt < 256) : o_n (cs.take (i + 1)) = true := by
  have e : cs.take (i + 1) = cs.take i ++ [c] := by rw [List.take_add_one, hc]; rfl
  rw [e]
  simp only [o_n, List.all_append, Bool.and_eq_true] at q ⊢
  exact ⟨q, by simp [hl]⟩
theorem o_8z {cs : List Int32} {i : Nat} {c : Int32} (hc : cs[i]? = some c) (hl : ¬ c.toInt < 256) : o_n cs = false := by
  cases q : o_n cs
  · rfl
  · exact absurd (o_2l q hc) hl
theorem o_43 (cs : List Int32) : narrow .byte (.int (o_1z cs)) = .int (o_1z cs) ∧ fits .byte (.int (o_1z cs)) = true := by
  unfold o_1z; split <;> exact ⟨rfl, rfl⟩
theorem o_0e {cs : List Int32} (q : o_n cs = true) : o_1r cs = cs.map o_04 ∧ o_1z cs = 0 := by simp [o_1r, o_1z, q]
theorem o_2a {cs : List Int32} (q : o_n cs = false) : o_1r cs = o_2m cs ∧ o_1z cs = 1 := by simp [o_1r, o_1z, q]
theorem o_63 (cs : List Int32) : (o_2m cs).length = 2 * cs.length := by
  induction cs with
  | nil => rfl
  | cons c r ih => simp [o_2m] at ih ⊢; omega
theorem o_90 {x : Int32} (q : x.toInt < 0) : XT.ushr x 31 = 1 := by
  apply Int32.toInt_inj.mp
  have := c_iushr x 31 31 (by decide) (by decide)
  have r := rng32 x
  have e : (XT.ushr x 31).toInt = (x.toInt % 4294967296) / (2 ^ 31 : Nat) := this
  rw [e]
  have : (1 : Int32).toInt = 1 := rfl
  omega
theorem o_9n (x : Int32) : x >>> ((0 : Int32) &&& 31) = x := by
  apply Int32.toInt_inj.mp
  have := c_ishr x 0 0 (by decide)
  rw [this]; simp
theorem o_9o (x : Int32) : x <<< ((0 : Int32) &&& 31) = x := by
  apply Int32.toInt_inj.mp
  have := c_ishl x 0 0 (by decide)
  have := rng32 (x <<< ((0 : Int32) &&& 31))
  have := rng32 x
  omega
theorem o_2b {x : Int32} (h0 : 0 ≤ x.toInt) (h1 : x.toInt < 65536) : x.toUInt32.toUInt16.toUInt32.toInt32 = x := by
  apply Int32.toInt_inj.mp
  have := c_i2c x
  omega
theorem o_7w {c : Int32} (h0 : 0 ≤ c.toInt) (h1 : c.toInt < 65536) : ((o_04 c &&& 255) <<< ((0 : Int32) &&& 31)) ||| ((o_36 c &&& 255) <<< ((8 : Int32) &&& 31)) = c := by
  rw [o_9o]
  have b1 := c_mask (o_04 c) 255 8 (by decide) (by decide)
  have b2 := (c_i2b c).1
  have s1 := c_ishr c 8 8 (by decide)
  have b3 := c_mask (o_36 c) 255 8 (by decide) (by decide)
  have b4 := (c_i2b (c >>> ((8 : Int32) &&& 31))).1
  have s2 := c_ishl (o_36 c &&& 255) 8 8 (by decide)
  have r2 := rng32 ((o_36 c &&& 255) <<< ((8 : Int32) &&& 31))
  have e1 : (o_04 c &&& 255).toInt = c.toInt % 256 := by
    have : (o_04 c).toInt = c.toInt8.toInt32.toInt := rfl
    omega
  have e2 : (o_36 c &&& 255).toInt = c.toInt / 256 := by
    have : (o_36 c).toInt = (c >>> ((8 : Int32) &&& 31)).toInt8.toInt32.toInt := rfl
    omega
  have e3 : ((o_36 c &&& 255) <<< ((8 : Int32) &&& 31)).toInt = c.toInt / 256 * 256 := by omega
  have o := c_or ((o_36 c &&& 255) <<< ((8 : Int32) &&& 31)) (o_04 c &&& 255) 8 (by decide) 256 (by decide) (by omega) (by omega) (by omega)
  rw [Int32.or_comm] at o
  apply Int32.toInt_inj.mp
  have r := rng32 ((o_04 c &&& 255) ||| (o_36 c &&& 255) <<< ((8 : Int32) &&& 31))
  omega
theorem d_cp5_0 : decode Bn7 0 = .ok (.iconst 0, 1) := by decide +kernel
theorem d_cp5_1 : decode Bn7 1 = .ok (.istore 5, 2) := by decide +kernel
theorem d_cp5_3 : decode Bn7 3 = .ok (.iload 5, 2) := by decide +kernel
theorem d_cp5_5 : decode Bn7 5 = .ok (.iload 4, 2) := by decide +kernel
theorem d_cp5_7 : decode Bn7 7 = .ok (.if_icmp .ge 37, 3) := by decide +kernel
theorem d_cp5_10 : decode Bn7 10 = .ok (.aload_n 0, 1) := by decide +kernel
theorem d_cp5_11 : decode Bn7 11 = .ok (.iload_n 1, 1) := by decide +kernel
theorem d_cp5_12 : decode Bn7 12 = .ok (.caload, 1) := by decide +kernel
theorem d_cp5_13 : decode Bn7 13 = .ok (.istore 6, 2) := by decide +kernel
theorem d_cp5_15 : decode Bn7 15 = .ok (.iload 6, 2) := by decide +kernel
theorem d_cp5_17 : decode Bn7 17 = .ok (.sipush 255, 3) := by decide +kernel
theorem d_cp5_20 : decode Bn7 20 = .ok (.if_icmp .le 6, 3) := by decide +kernel
theorem d_cp5_23 : decode Bn7 23 = .ok (.iload 5, 2) := by decide +kernel
theorem d_cp5_25 : decode Bn7 25 = .ok (.ireturn, 1) := by decide +kernel
theorem d_cp5_26 : decode Bn7 26 = .ok (.aload_n 2, 1) := by decide +kernel
theorem d_cp5_27 : decode Bn7 27 = .ok (.iload_n 3, 1) := by decide +kernel
theorem d_cp5_28 : decode Bn7 28 = .ok (.iload 6, 2) := by decide +kernel
theorem d_cp5_30 : decode Bn7 30 = .ok (.i2b, 1) := by decide +kernel
theorem d_cp5_31 : decode Bn7 31 = .ok (.bastore, 1) := by decide +kernel
theorem d_cp5_32 : decode Bn7 32 = .ok (.iinc 1 1, 3) := by decide +kernel
theorem d_cp5_35 : decode Bn7 35 = .ok (.iinc 3 1, 3) := by decide +kernel
theorem d_cp5_38 : decode Bn7 38 = .ok (.iinc 5 1, 3) := by decide +kernel
theorem d_cp5_41 : decode Bn7 41 = .ok (.goto (-38), 3) := by decide +kernel
theorem d_cp5_44 : decode Bn7 44 = .ok (.iload 4, 2) := by decide +kernel
theorem d_cp5_46 : decode Bn7 46 = .ok (.ireturn, 1) := by decide +kernel
abbrev M_cp5 : o_7 := (Yn19, jdk_52_method_21_code, 7, (Option.some FieldType.int), ({ frames := 0, cells := 0, slots := 0, locals := 0 } : Room))
theorem pn_cp5 : plainFor (o_7.y M_cp5) = true := plainFor_of_name (by first | (simp [plainName, overriddenIn]; done) | decide +kernel)
def Q_cp5 (K : o_b) (b : Addr) (n : Int32) (cs : List Int32) (h : Heap) : o_0g := o_c fun w h' _ => ∃ r : Int32, w = .int r ∧ Keep h h' [b] ∧ ((o_n cs = true ∧ r = n ∧ o_g K.Z h' b .byte (o_p (cs.map o_04))) ∨ (o_n cs = false ∧ ∃ (i : Nat) (c : Int32), r.toInt = i ∧ cs[i]? = some c ∧ 256 ≤ c.toInt))
theorem c_cp5 (K : o_b) (a0 : Array Value) (hw : ∀ d ∈ tables_1, d.before a0 K.Z = true) (a b : Addr) (n : Int32) (cs : List Int32) (h : Heap) (hn : n.toInt = cs.length) (hcs : o_0i cs) (A : o_g K.Z h a .char (o_p cs)) (Bq : o_g K.Z h b .byte (List.replicate cs.length (.int 0))) (hab : a ≠ b) :
    o_9 K M_cp5 #[.ref a, .int 0, .ref b, .int 0, .int n] [b] h (Q_cp5 K b n cs h) := by
  have hlen := rng32 n
  refine o_8b (M := M_cp5) pn_cp5 rfl (by first | rfl | exact o_5 (by assumption)) (by first | rfl | exact o_5 (by assumption)) (by first | rfl | exact o_5 (by assumption)) (by first | rfl | exact o_5 (by assumption)) (by first | rfl | exact o_5 (by assumption)) ?_
  refine o_4 (v := (0 : Int32)) (pc' := 1) rfl d_cp5_0 rfl ?_
  refine o_1a (pc' := 3) rfl d_cp5_1 (by first | exact One.u | exact One.val rfl | assumption | exact One.val (by assumption)) ?_
  suffices key : ∀ (k i : Nat) (j : Int32) (h1 : Heap) (o : Slot), i + k = cs.length → j.toInt = i → One o → Keep h h1 [b] → o_n (cs.take i) = true → o_g K.Z h1 b .byte (o_p ((cs.take i).map o_04) ++ List.replicate k (.int 0)) → o_3 K M_cp5 (Q_cp5 K b n cs h) 3 [.val (.ref a), .val (.int j), .val (.ref b), .val (.int j), .val (.int n), .val (.int j), o] [] [b] h1 0 0 from
    key cs.length 0 0 h .unset (by simp) rfl One.u (Keep.refl _ _) (by simp [o_n]) (by simpa using Bq)
  intro k
  induction k with
  | zero =>
    intro i j h1 o hik hj ho hk hl hA
    refine o_a (pc' := 5) rfl d_cp5_3 rfl ?_
    refine o_a (pc' := 7) rfl d_cp5_5 rfl ?_
    refine o_14 (pcT := 44) (pcF := 10) d_cp5_7 (by decide) (by decide) rfl (fun q => ?_) (fun q => ?_)
    · skip
      refine o_a (pc' := 46) rfl d_cp5_44 rfl ?_
      refine o_00 rfl d_cp5_46 rfl rfl ?_
      have e : cs.take i = cs := List.take_of_length_le (by omega)
      rw [e] at hl hA
      exact ⟨n, rfl, hk, Or.inl ⟨hl, rfl, by simpa using hA⟩⟩
    · rw [Int32.lt_iff_toInt_lt] at q
      omega
  | succ k ih =>
    intro i j h1 o hik hj ho hk hl hA
    have hi : i < cs.length := by omega
    obtain ⟨c, hc⟩ : ∃ c, cs[i]? = some c := ⟨cs[i], by simp [hi]⟩
    have hcr := hcs c (List.mem_of_getElem? hc)
    refine o_a (pc' := 5) rfl d_cp5_3 rfl ?_
    refine o_a (pc' := 7) rfl d_cp5_5 rfl ?_
    refine o_14 (pcT := 44) (pcF := 10) d_cp5_7 (by decide) (by decide) rfl (fun q => ?_) (fun q => ?_)
    · exact absurd (by rw [Int32.lt_iff_toInt_lt]; omega) q
    · skip
      refine o_1 (pc' := 11) rfl d_cp5_10 rfl (by first | rfl | assumption) ?_
      refine o_2 (pc' := 12) rfl d_cp5_11 rfl ?_
      refine o_8y (pc' := 13) rfl d_cp5_12 (A.keep hk (ninS hab nin0)) (i := i) hj (by first | exact o_42 hc | exact o_2h hc) ?_
      refine o_1w (pc' := 15) rfl d_cp5_13 (by first | exact One.u | exact One.val rfl | assumption | exact One.val (by assumption)) ?_
      refine o_a (pc' := 17) rfl d_cp5_15 rfl ?_
      refine o_1f (v := (255 : Int32)) (pc' := 20) rfl d_cp5_17 rfl ?_
      refine o_1m (pcT := 26) (pcF := 23) d_cp5_20 (by decide) (by decide) rfl (fun q2 => ?_) (fun q2 => ?_)
      · have hc2 : c.toInt < 256 := by
          rw [Int32.lt_iff_toInt_lt] at q2
          have : (255 : Int32).toInt = 255 := rfl
          omega
        refine o_1 (pc' := 27) rfl d_cp5_26 rfl (by first | rfl | assumption) ?_
        refine o_2 (pc' := 28) rfl d_cp5_27 rfl ?_
        refine o_a (pc' := 30) rfl d_cp5_28 rfl ?_
        refine o_4w (pc' := 31) rfl d_cp5_30 ?_
        refine o_59 (pc' := 32) rfl d_cp5_31 hA (i := i) hj (by simp; omega) (o_5g c) (by simp) ?_
        intro h2 k2 hA2
        refine o_8x (z := (1 : Int32)) (pc' := 35) rfl d_cp5_32 rfl ?_
        refine o_5e (z := (1 : Int32)) (pc' := 38) rfl d_cp5_35 rfl ?_
        refine o_4r (z := (1 : Int32)) (pc' := 41) rfl d_cp5_38 rfl ?_
        refine o_o (pc' := 3) d_cp5_41 (by decide) (by decide) ?_
        have e1 : i = (o_p ((cs.take i).map o_04)).length := by simp; omega
        have e2 : o_p ((cs.take (i + 1)).map o_04) = o_p ((cs.take i).map o_04) ++ [.int (o_04 c)] := by
          have e : cs.take (i + 1) = cs.take i ++ [c] := by rw [List.take_add_one, hc]; rfl
          rw [e]; simp [o_p]
        refine ih (i + 1) (j + 1) h2 _ (by omega) (by rw [o_20 hj (by rfl : (1 : Int32).toInt = 1)] <;> omega) (One.val rfl) (hk.trans k2 (fun x hx => Or.inl hx)) (o_7v hc hl hc2) ?_
        rw [e2, ← o_6h, ← e1]
        exact hA2
      · skip
        refine o_a (pc' := 25) rfl d_cp5_23 rfl ?_
        refine o_00 rfl d_cp5_25 rfl rfl ?_
        have hc2 : 256 ≤ c.toInt := by
          rw [Int32.lt_iff_toInt_lt] at q2
          have : (255 : Int32).toInt = 255 := rfl
          omega
        exact ⟨j, rfl, hk, Or.inr ⟨o_8z hc (by omega), i, c, hj, hc, hc2⟩⟩
theorem d_cfa_0 : decode Bn45 0 = .ok (.iload_n 1, 1) := by decide +kernel
theorem d_cfa_1 : decode Bn45 1 = .ok (.aload_n 0, 1) := by decide +kernel
theorem d_cfa_2 : decode Bn45 2 = .ok (.arraylength, 1) := by decide +kernel
theorem d_cfa_3 : decode Bn45 3 = .ok (.isub, 1) := by decide +kernel
theorem d_cfa_4 : decode Bn45 4 = .ok (.bipush 31, 2) := by decide +kernel
theorem d_cfa_6 : decode Bn45 6 = .ok (.iushr, 1) := by decide +kernel
theorem d_cfa_7 : decode Bn45 7 = .ok (.i2b, 1) := by decide +kernel
theorem d_cfa_8 : decode Bn45 8 = .ok (.ireturn, 1) := by decide +kernel
abbrev M_cfa : o_7 := (Yn20, jdk_52_method_15_code, 2, (Option.some FieldType.byte), ({ frames := 0, cells := 0, slots := 0, locals := 0 } : Room))
theorem pn_cfa : plainFor (o_7.y M_cfa) = true := plainFor_of_name (by first | (simp [plainName, overriddenIn]; done) | decide +kernel)
theorem c_cfa (K : o_b) (a0 : Array Value) (hw : ∀ d ∈ tables_1, d.before a0 K.Z = true) (b : Addr) (n : Int32) (cs : List Int32) (h : Heap) (hn : n.toInt = cs.length) (hl : cs.length < 2 ^ 30) (hp : 0 < cs.length) (Bq : o_g K.Z h b .byte (o_p (o_1r cs))) :
    o_9 K M_cfa #[.ref b, .int n] [] h (o_c fun w h' _ => w = .int (o_1z cs) ∧ h' = h) := by
  cases ql : o_n cs
  · have hz : ((2 * cs.length).toInt32).toInt = ((2 * cs.length : Nat) : Int) := o_0o _ (by omega)
    refine o_08 (M := M_cfa) pn_cfa rfl (by first | rfl | exact o_5 (by assumption)) (by first | rfl | exact o_5 (by assumption)) ?_
    refine o_2 (pc' := 1) rfl d_cfa_0 rfl ?_
    refine o_1 (pc' := 2) rfl d_cfa_1 rfl (by first | rfl | assumption) ?_
    refine o_01 (z := (2 * cs.length).toInt32) (pc' := 3) rfl d_cfa_2 Bq (by rw [hz]; simp [(o_2a ql).1, o_63]) ?_
    refine o_2x (pc' := 4) rfl d_cfa_3 ?_
    refine o_u (v := (31 : Int32)) (pc' := 6) rfl d_cfa_4 rfl ?_
    refine o_2e (pc' := 7) rfl d_cfa_6 ?_
    refine o_4w (pc' := 8) rfl d_cfa_7 ?_
    have e : XT.ushr (n - (2 * cs.length).toInt32) 31 = 1 := o_90 (by rw [o_4b hn hz] <;> omega)
    rw [e]
    refine o_y (t := .byte) rfl (by simp) (z' := 1) rfl d_cfa_8 rfl rfl ?_
    exact ⟨by rw [(o_2a ql).2], rfl⟩
  · skip
    refine o_08 (M := M_cfa) pn_cfa rfl (by first | rfl | exact o_5 (by assumption)) (by first | rfl | exact o_5 (by assumption)) ?_
    refine o_2 (pc' := 1) rfl d_cfa_0 rfl ?_
    refine o_1 (pc' := 2) rfl d_cfa_1 rfl (by first | rfl | assumption) ?_
    refine o_01 (z := n) (pc' := 3) rfl d_cfa_2 Bq (by rw [hn]; simp [(o_0e ql).1]) ?_
    refine o_2x (pc' := 4) rfl d_cfa_3 ?_
    refine o_u (v := (31 : Int32)) (pc' := 6) rfl d_cfa_4 rfl ?_
    refine o_2e (pc' := 7) rfl d_cfa_6 ?_
    refine o_4w (pc' := 8) rfl d_cfa_7 ?_
    have e : XT.ushr (n - n) 31 = 0 := by rw [Int32.sub_self]; decide
    rw [e]
    refine o_y (t := .byte) rfl (by simp) (z' := 0) rfl d_cfa_8 rfl rfl ?_
    exact ⟨by rw [(o_0e ql).2], rfl⟩
theorem d_cp3_0 : decode Bn22 0 = .ok (.iload_n 2, 1) := by decide +kernel
theorem d_cp3_1 : decode Bn22 1 = .ok (.newarray .byte, 2) := by decide +kernel
theorem d_cp3_3 : decode Bn22 3 = .ok (.astore_n 3, 1) := by decide +kernel
theorem d_cp3_4 : decode Bn22 4 = .ok (.aload_n 0, 1) := by decide +kernel
theorem d_cp3_5 : decode Bn22 5 = .ok (.iload_n 1, 1) := by decide +kernel
theorem d_cp3_6 : decode Bn22 6 = .ok (.aload_n 3, 1) := by decide +kernel
theorem d_cp3_7 : decode Bn22 7 = .ok (.iconst 0, 1) := by decide +kernel
theorem d_cp3_8 : decode Bn22 8 = .ok (.iload_n 2, 1) := by decide +kernel
theorem d_cp3_9 : decode Bn22 9 = .ok (.invokestatic 115, 3) := by decide +kernel
theorem d_cp3_12 : decode Bn22 12 = .ok (.istore 4, 2) := by decide +kernel
theorem d_cp3_14 : decode Bn22 14 = .ok (.iload 4, 2) := by decide +kernel
theorem d_cp3_16 : decode Bn22 16 = .ok (.iload_n 2, 1) := by decide +kernel
theorem d_cp3_17 : decode Bn22 17 = .ok (.if_icmp .eq 40, 3) := by decide +kernel
theorem d_cp3_57 : decode Bn22 57 = .ok (.aload_n 3, 1) := by decide +kernel
theorem d_cp3_58 : decode Bn22 58 = .ok (.areturn, 1) := by decide +kernel
abbrev M_cp3 : o_7 := (Yn18, jdk_52_method_16_code, 6, (Option.some (FieldType.array FieldType.byte)), ({ frames := 1, cells := 1, slots := 7, locals := 24 } : Room))
theorem pn_cp3 : plainFor (o_7.y M_cp3) = true := plainFor_of_name (by first | (simp [plainName, overriddenIn]; done) | decide +kernel)
theorem c_cp3 (K : o_b) (a0 : Array Value) (hw : ∀ d ∈ tables_1, d.before a0 K.Z = true)
    (a : Addr) (n : Int32) (cs : List Int32) (h : Heap) (hn : n.toInt = cs.length) (hcap : cs.length ≤ 7) (hcs : o_0i cs) (A : o_g K.Z h a .char (o_p cs))
    (hl : o_n cs = true)
    : o_9 K M_cp3 #[.ref a, .int 0, .int n] [] h (o_c fun w h' _ => ∃ b : Addr, w = .ref b ∧ Ext h h' ∧ h.size ≤ b ∧ o_g K.Z h' b .byte (o_p (o_1r cs))) := by
  refine o_60 (M := M_cp3) pn_cp3 rfl (by first | rfl | exact o_5 (by assumption)) (by first | rfl | exact o_5 (by assumption)) (by first | rfl | exact o_5 (by assumption)) ?_
  refine o_2 (pc' := 1) rfl d_cp3_0 rfl ?_
  refine o_1p (pc' := 3) rfl d_cp3_1 (tw_14 hw) (N := cs.length) (cap := 7) hn hcap rfl rfl rfl ?_
  intro b h1 eb E1 B1
  have hab : a ≠ b := by show @Ne Nat a b; have : @LT.lt Nat _ _ _ := A.lt; omega
  refine o_2t (pc' := 4) rfl d_cp3_3 (by first | exact One.u | exact One.val rfl | assumption | exact One.val (by assumption)) (by first | rfl | assumption) ?_
  refine o_1 (pc' := 5) rfl d_cp3_4 rfl (by first | rfl | assumption) ?_
  refine o_2 (pc' := 6) rfl d_cp3_5 rfl ?_
  refine o_1 (pc' := 7) rfl d_cp3_6 rfl (by first | rfl | assumption) ?_
  refine o_4 (v := (0 : Int32)) (pc' := 8) rfl d_cp3_7 rfl ?_
  refine o_2 (pc' := 9) rfl d_cp3_8 rfl ?_
  refine o_3z (M' := M_cp5) d_cp3_9 (pc' := 12) rfl (tw_38 hw) (tw_39 hw) (tw_36 hw) (tw_40 hw) (by decide) rfl (o_6 pd_0 rfl) rfl rfl rfl rfl (c_cp5 K a0 hw a b n cs h1 hn hcs (A.ext E1) B1 hab) (by simp) ?_
  rintro w h2 xs ⟨r, rfl, k2, q⟩
  have E2 := o_f E1 k2 (by intro x hx; cases List.mem_singleton.mp hx; omega)
  refine o_1j (pc' := 14) rfl d_cp3_12 (by first | exact One.u | exact One.val rfl | assumption | exact One.val (by assumption)) ?_
  refine o_a (pc' := 16) rfl d_cp3_14 rfl ?_
  refine o_2 (pc' := 17) rfl d_cp3_16 rfl ?_
  refine o_33 (pcT := 57) (pcF := 20) d_cp3_17 (by decide) (by decide) rfl (fun z => ?_) (fun z => ?_)
  · rcases q with ⟨q1, q2, q3⟩ | ⟨q1, i, c, q2, q3, q4⟩
    · skip
      refine o_1 (pc' := 58) rfl d_cp3_57 rfl (by first | rfl | assumption) ?_
      refine o_i rfl rfl (by first | rfl | assumption) d_cp3_58 rfl rfl ?_
      exact ⟨b, rfl, E2, by omega, by rw [(o_0e q1).1]; exact q3⟩
    · have := (List.getElem?_eq_some_iff.mp q3).1
      rw [z] at q2
      omega
  · rcases q with ⟨q1, q2, q3⟩ | ⟨q1, i, c, q2, q3, q4⟩
    · exact absurd q2 z
    · rw [hl] at q1; cases q1
theorem o_3x {a0 : Array Value} {Z : State} (hw : ∀ d ∈ tables_1, d.before a0 Z = true) : ∀ a ∈ Bundle.stringAtoms, a.before a0 Z = true := by
  intro a ha
  simp only [Bundle.stringAtoms, List.mem_cons, List.not_mem_nil, or_false] at ha
  rcases ha with rfl | rfl | rfl | rfl | rfl | rfl | rfl
  · exact (tw_2 hw)
  · exact (tw_10 hw)
  · exact (tw_14 hw)
  · exact (tw_23 hw)
  · exact (tw_25 hw)
  · exact (o_0 hw 52 rfl)
  · exact (o_0 hw 53 rfl)
theorem o_9b {Z : State} {h : Heap} {b : Addr} {k : ClassId} {ty : FieldType} {z : Int32} {vs : List Value} {d : Value} (A : Arv Z h b k ty z vs d) (hl : z.toNatClampNeg = vs.length) : o_g Z h b ty vs := by
  obtain ⟨c, h1, -, h3, h4, h5, -⟩ := A
  refine ⟨c, h1, ?_, by rw [← hl]; exact (back32 h4).2⟩
  apply Array.ext
  · simp [h3, hl]
  · intro i hi1 hi2
    have := h5 i hi1
    have hi3 : i < vs.length := by simpa using hi2
    simp [hi1, hi3] at this
    simpa using this
/-- what a constant's text spells -/
def o_3s (text : String) : List Int32 := text.toList.map fun c => c.toNat.toInt32
theorem o_4c {K : o_b} {M : o_7} {Q : o_0g} {pc pc' : Nat} {Ls : List Slot} {St : List Value} {sf : List Addr} {h : Heap} {cs sl : Nat} {a0 : Array Value} {index n : Nat} {text : String}
    (hnw : K.nw = false) (hp : pc + 2 = pc') (hd : decode M.b pc = .ok (.ldc index, 2)) (w : (Jvm.Cond.stringLink M.y.cls index text).before a0 K.Z = true) (wS : ∀ a ∈ Bundle.stringAtoms, a.before a0 K.Z = true) (hEL : EW K.Z a0 K.E) (hmem : (M.y.cls, index) ∈ K.E)
    (ht : (∀ c ∈ text.toList, c.toNat < 256) ∧ text.toList.map (fun c => Value.int (Jvm.Lit.byteI c.toNat.toUInt16)) = o_p (o_1r (o_3s text))) (hlat : o_n (o_3s text) = true) (hcs : o_0i (o_3s text)) (hz : ¬ ((o_3s text).length.toInt32) < 0) (hl : ((o_3s text).length.toInt32).toNatClampNeg = (o_p (o_1r (o_3s text))).length) (hlen : (o_3s text).length < 2 ^ 30)
    (hn : Nat.ble (4 * text.toList.length) n = true) (hbig : Nat.ble n 536870912 = true) (hc : Nat.ble (cs + 2) M.R.cells = true) (hs : Nat.ble (sl + (n + 4)) M.R.slots = true)
    (k : ∀ (a : Addr) (h' : Heap), Ext h h' → o_h K.Z h' a (o_3s text) → o_3 K M Q pc' Ls (.ref a :: St) sf h' (cs + 2) (sl + (n + 4))) : o_3 K M Q pc Ls St sf h cs sl := by
  subst hp
  intro p e s vm0 k0 m args below meth c T locs cs' sl' B X hc' hs' eT N I
  obtain ⟨i1, i2, i3, i4, i5, i6⟩ := I
  obtain ⟨b1, b2, b3, b4, b5, b6, b7, b8, b9⟩ := B
  have q3 := Nat.le_of_ble_eq_true hc
  have q4 := Nat.le_of_ble_eq_true hs
  obtain ⟨a, T', h', k1, b, kk, X', e', E, S', hk', Z', O', A1, A2, A3, A4, -, -, C, -, -, st⟩ := ldcCH X b1 b8 b4 w wS eT i1 i2 hEL hmem i4.1 ht hz hl (g := mkF m pc Ls.toArray St) rfl (hb b2 hd) (Nat.le_of_ble_eq_true hn) (Nat.le_of_ble_eq_true hbig) (by omega) (by omega)
  obtain ⟨s₂, o, h1, r⟩ := k a h' E ⟨A1, hcs, hlen, b, A3, by rw [(o_0e hlat).2]; exact A2, o_9b A4 hl⟩ p e s T'.vm k1 m args below meth c T' locs _ _ ⟨b1, b2, b3, O', b5, b6, b7, Z', b9⟩ X' (by omega) (by omega) e' N
    ⟨S', hk', (fun q => by rw [hnw] at q; cases q), i4.trans C, fun x hx => ⟨(i5 x hx).1, Nat.lt_of_lt_of_le (i5 x hx).2.1 C.2.1, C.safe (i5 x hx).2.1 (i5 x hx).2.2⟩, o_t i6 E⟩
  exact ⟨s₂, o, st _ h1, r⟩
theorem d_si4_0 : decode Bn5 0 = .ok (.aload_n 0, 1) := by decide +kernel
theorem d_si4_1 : decode Bn5 1 = .ok (.invokespecial 1, 3) := by decide +kernel
theorem d_si4_4 : decode Bn5 4 = .ok (.iload_n 3, 1) := by decide +kernel
theorem d_si4_5 : decode Bn5 5 = .ok (.ifCond .ne 22, 3) := by decide +kernel
theorem d_si4_8 : decode Bn5 8 = .ok (.aload_n 0, 1) := by decide +kernel
theorem d_si4_9 : decode Bn5 9 = .ok (.ldc 7, 2) := by decide +kernel
theorem d_si4_11 : decode Bn5 11 = .ok (.getfield 9, 3) := by decide +kernel
theorem d_si4_14 : decode Bn5 14 = .ok (.putfield 9, 3) := by decide +kernel
theorem d_si4_17 : decode Bn5 17 = .ok (.aload_n 0, 1) := by decide +kernel
theorem d_si4_18 : decode Bn5 18 = .ok (.ldc 7, 2) := by decide +kernel
theorem d_si4_20 : decode Bn5 20 = .ok (.getfield 15, 3) := by decide +kernel
theorem d_si4_23 : decode Bn5 23 = .ok (.putfield 15, 3) := by decide +kernel
theorem d_si4_26 : decode Bn5 26 = .ok (.return_, 1) := by decide +kernel
theorem d_si4_27 : decode Bn5 27 = .ok (.getstatic 38, 3) := by decide +kernel
theorem d_si4_30 : decode Bn5 30 = .ok (.ifCond .eq 28, 3) := by decide +kernel
theorem d_si4_33 : decode Bn5 33 = .ok (.aload_n 1, 1) := by decide +kernel
theorem d_si4_34 : decode Bn5 34 = .ok (.iload_n 2, 1) := by decide +kernel
theorem d_si4_35 : decode Bn5 35 = .ok (.iload_n 3, 1) := by decide +kernel
theorem d_si4_36 : decode Bn5 36 = .ok (.invokestatic 177, 3) := by decide +kernel
theorem d_si4_39 : decode Bn5 39 = .ok (.astore 5, 2) := by decide +kernel
theorem d_si4_41 : decode Bn5 41 = .ok (.aload_n 0, 1) := by decide +kernel
theorem d_si4_42 : decode Bn5 42 = .ok (.aload 5, 2) := by decide +kernel
theorem d_si4_44 : decode Bn5 44 = .ok (.iload_n 3, 1) := by decide +kernel
theorem d_si4_45 : decode Bn5 45 = .ok (.invokestatic 47, 3) := by decide +kernel
theorem d_si4_48 : decode Bn5 48 = .ok (.putfield 15, 3) := by decide +kernel
theorem d_si4_51 : decode Bn5 51 = .ok (.aload_n 0, 1) := by decide +kernel
theorem d_si4_52 : decode Bn5 52 = .ok (.aload 5, 2) := by decide +kernel
theorem d_si4_54 : decode Bn5 54 = .ok (.putfield 9, 3) := by decide +kernel
theorem d_si4_57 : decode Bn5 57 = .ok (.return_, 1) := by decide +kernel
abbrev M_si4 : o_7 := (Yn17, jdk_42_method_149_code, 6, (Option.none : Option FieldType), ({ frames := 2, cells := 4, slots := 18, locals := 42 } : Room))
theorem pn_si4 : plainFor (o_7.y M_si4) = true := plainFor_of_name (by first | (simp [plainName, overriddenIn]; done) | decide +kernel)
theorem c_si4 (K : o_b) (a0 : Array Value) (hw : ∀ d ∈ tables_1, d.before a0 K.Z = true)
    (hnw : K.nw = false) (hEL : EW K.Z a0 K.E) (hme : ("java/lang/String", 7) ∈ K.E)
    (x a : Addr) (n g : Int32) (cs : List Int32) (h : Heap) (hn : n.toInt = cs.length)
    (hcap : cs.length ≤ 7) (hcs : o_0i cs) (A : o_g K.Z h a .char (o_p cs))
    (E : Exa K.Z h x "java/lang/String") (FV : Fld K.Z h x "java/lang/String" "value" "[B" .null) (FC : Fld K.Z h x "java/lang/String" "coder" "B" (.int 0)) (SC : Sta K.Z K.Z.heap "java/lang/String" "COMPACT_STRINGS" "Z" (.int g)) (hg : ¬ g = 0)
    (hl : o_n cs = true)
    : o_9 K M_si4 #[.ref x, .ref a, .int 0, .int n, .null] [x] h (o_09 fun h' _ => Keep h h' [x] ∧ o_h K.Z h' x cs) := by
  refine o_62 (M := M_si4) pn_si4 rfl (by first | rfl | exact o_5 (by assumption)) (by first | rfl | exact o_5 (by assumption)) (by first | rfl | exact o_5 (by assumption)) (by first | rfl | exact o_5 (by assumption)) (by first | rfl | exact o_5 (by assumption)) ?_
  refine o_1 (pc' := 1) rfl d_si4_0 rfl (by first | rfl | assumption) ?_
  refine o_2w (pc' := 4) rfl d_si4_1 (tw_19 hw) (tw_20 hw) (tw_21 hw) rfl rfl rfl ?_
  refine o_2 (pc' := 5) rfl d_si4_4 rfl ?_
  refine o_0k (pcT := 27) (pcF := 8) d_si4_5 (by decide) (by decide) rfl (fun z => ?_) (fun z => ?_)
  · skip
    refine o_2o (pc' := 30) rfl d_si4_27 (tw_4 hw) Via.refl (by assumption) ?_
    refine o_k (pcT := 58) (pcF := 33) d_si4_30 (by decide) (by decide) rfl (fun z2 => ?_) (fun z2 => ?_)
    · exact absurd z2 hg
    · skip
      refine o_1 (pc' := 34) rfl d_si4_33 rfl (by first | rfl | assumption) ?_
      refine o_2 (pc' := 35) rfl d_si4_34 rfl ?_
      refine o_2 (pc' := 36) rfl d_si4_35 rfl ?_
      refine o_13 (M' := M_cp3) d_si4_36 (pc' := 39) rfl (tw_34 hw) (tw_35 hw) (tw_36 hw) (tw_37 hw) (by decide) rfl (o_6 pd_1 rfl) rfl rfl rfl rfl (c_cp3 K a0 hw a n cs h hn hcap hcs A hl) (by simp) ?_
      rintro w h1 xs ⟨b, rfl, E1, hb1, B1⟩
      have hxb : b ≠ x := by show @Ne Nat b x; have : @LT.lt Nat _ _ _ := E.lt; omega
      refine o_2z (pc' := 41) rfl d_si4_39 (by first | exact One.u | exact One.val rfl | assumption | exact One.val (by assumption)) (by first | rfl | assumption) ?_
      refine o_1 (pc' := 42) rfl d_si4_41 rfl (by first | rfl | assumption) ?_
      refine o_d (pc' := 44) rfl d_si4_42 rfl (by first | rfl | assumption) ?_
      refine o_2 (pc' := 45) rfl d_si4_44 rfl ?_
      have hp : 0 < cs.length := by
        rcases Nat.eq_zero_or_pos cs.length with e | e
        · exact absurd (Int32.toInt_inj.mp (by rw [hn, e]; rfl)) z
        · exact e
      refine o_0n (M' := M_cfa) d_si4_45 (pc' := 48) rfl (tw_41 hw) (tw_42 hw) (tw_36 hw) (tw_43 hw) (by decide) rfl (o_6 pd_2 rfl) rfl rfl rfl rfl (c_cfa K a0 hw b n cs h1 hn (by omega) hp B1) (by simp) ?_
      rintro w h2 xs2 ⟨rfl, rfl⟩
      refine o_06 (pc' := 51) rfl d_si4_48 (tw_24 hw) Via.refl (Or.inr ⟨(tw_25 hw), rfl, rfl⟩) (tw_10 hw) (ty := .byte) (by decide) (o_43 cs).1 (o_43 cs).2 (FC.ext E1) (E.ext E1) (by simp) ?_
      intro h3 W3
      have sne : RoadKit.slotOf K.Z "java/lang/String" "value" "[B" ≠ RoadKit.slotOf K.Z "java/lang/String" "coder" "B" := slot_ne (Or.inr (tw_23 hw)) (Or.inr (tw_25 hw)) (by decide) (t := .array .byte) (t' := .byte) (by decide) (by decide)
      have FV3 := (FV.ext E1).other W3 (Or.inr sne)
      have FC3 := (FC.ext E1).same W3
      have E3 := (E.ext E1).wr W3
      have B3 := B1.other W3 hxb
      refine o_1 (pc' := 52) rfl d_si4_51 rfl (by first | rfl | assumption) ?_
      refine o_d (pc' := 54) rfl d_si4_52 rfl (by first | rfl | assumption) ?_
      refine o_06 (pc' := 57) rfl d_si4_54 (tw_22 hw) Via.refl (Or.inr ⟨(tw_23 hw), rfl, rfl⟩) (tw_10 hw) (ty := (.array .byte)) (by decide) rfl rfl FV3 E3 (by simp) ?_
      intro h4 W4
      refine o_0b rfl d_si4_57 rfl rfl ?_
      refine ⟨(((Keep.refl h [x]).ext E1).wr W3 (Or.inl (List.mem_singleton.mpr rfl))).wr W4 (Or.inl (List.mem_singleton.mpr rfl)), E3.wr W4, hcs, by omega, b, FV3.same W4, FC3.other W4 (Or.inr (Ne.symm sne)), B3.other W4 hxb⟩
  · have hcs0 : cs = [] := by
      rw [z] at hn
      have : (0 : Int32).toInt = 0 := rfl
      exact List.eq_nil_of_length_eq_zero (by omega)
    subst hcs0
    have hen : o_p (o_1r []) = [] := rfl
    refine o_1 (pc' := 9) rfl d_si4_8 rfl (by first | rfl | assumption) ?_
    refine o_4c (n := 0) hnw (pc' := 11) rfl d_si4_9 (hw _ (List.mem_of_getElem? (i := 51) rfl)) (o_3x hw) hEL hme (by decide +kernel) (by decide +kernel) (by decide +kernel) (by decide +kernel) (by decide +kernel) (by decide +kernel) (by decide +kernel) rfl rfl rfl ?_
    intro e1 h1 E1 S1
    obtain ⟨G1, -, -, b1, GV1, GC1, GB1⟩ := S1
    refine o_q (pc' := 14) rfl d_si4_11 (tw_22 hw) Via.refl GV1 ?_
    refine o_06 (pc' := 17) rfl d_si4_14 (tw_22 hw) Via.refl (Or.inr ⟨(tw_23 hw), rfl, rfl⟩) (tw_10 hw) (ty := (.array .byte)) (by decide) rfl rfl (FV.ext E1) (E.ext E1) (by simp) ?_
    intro h2 W2
    have sne : RoadKit.slotOf K.Z "java/lang/String" "value" "[B" ≠ RoadKit.slotOf K.Z "java/lang/String" "coder" "B" := slot_ne (Or.inr (tw_23 hw)) (Or.inr (tw_25 hw)) (by decide) (t := .array .byte) (t' := .byte) (by decide) (by decide)
    have FV2 := (FV.ext E1).same W2
    have FC2 := (FC.ext E1).other W2 (Or.inr (Ne.symm sne))
    have E2 := (E.ext E1).wr W2
    have hxb : b1 ≠ x := by obtain ⟨c, A, -⟩ := GB1; exact fun q => ne_arr (E.ext E1) (tw_10 hw) A q.symm
    have B2 := GB1.other W2 hxb
    refine o_1 (pc' := 18) rfl d_si4_17 rfl (by first | rfl | assumption) ?_
    refine o_4c (n := 0) hnw (pc' := 20) rfl d_si4_18 (hw _ (List.mem_of_getElem? (i := 51) rfl)) (o_3x hw) hEL hme (by decide +kernel) (by decide +kernel) (by decide +kernel) (by decide +kernel) (by decide +kernel) (by decide +kernel) (by decide +kernel) rfl rfl rfl ?_
    intro e3 h3 E3 S3
    obtain ⟨G3, -, -, b3, GV3, GC3, GB3⟩ := S3
    refine o_q (pc' := 23) rfl d_si4_20 (tw_24 hw) Via.refl GC3 ?_
    refine o_06 (pc' := 26) rfl d_si4_23 (tw_24 hw) Via.refl (Or.inr ⟨(tw_25 hw), rfl, rfl⟩) (tw_10 hw) (ty := .byte) (by decide) rfl rfl (FC2.ext E3) (E2.ext E3) (by simp) ?_
    intro h4 W4
    refine o_0b rfl d_si4_26 rfl rfl ?_
    exact ⟨(((((Keep.refl h [x]).ext E1).wr W2 (Or.inl (List.mem_singleton.mpr rfl))).ext E3).wr W4 (Or.inl (List.mem_singleton.mpr rfl))), (E2.ext E3).wr W4, hcs, by simp, b1, (FV2.ext E3).other W4 (Or.inr sne), (FC2.ext E3).same W4, (B2.ext E3).other W4 hxb⟩
theorem d_si1_0 : decode Bn44 0 = .ok (.aload_n 0, 1) := by decide +kernel
theorem d_si1_1 : decode Bn44 1 = .ok (.aload_n 1, 1) := by decide +kernel
theorem d_si1_2 : decode Bn44 2 = .ok (.iconst 0, 1) := by decide +kernel
theorem d_si1_3 : decode Bn44 3 = .ok (.aload_n 1, 1) := by decide +kernel
theorem d_si1_4 : decode Bn44 4 = .ok (.arraylength, 1) := by decide +kernel
theorem d_si1_5 : decode Bn44 5 = .ok (.aconst_null, 1) := by decide +kernel
theorem d_si1_6 : decode Bn44 6 = .ok (.invokespecial 27, 3) := by decide +kernel
theorem d_si1_9 : decode Bn44 9 = .ok (.return_, 1) := by decide +kernel
abbrev M_si1 : o_7 := (Yn16, jdk_42_method_3_code, 2, (Option.none : Option FieldType), ({ frames := 3, cells := 4, slots := 18, locals := 59 } : Room))
theorem pn_si1 : plainFor (o_7.y M_si1) = true := plainFor_of_name (by first | (simp [plainName, overriddenIn]; done) | decide +kernel)
theorem c_si1 (K : o_b) (a0 : Array Value) (hw : ∀ d ∈ tables_1, d.before a0 K.Z = true)
    (hnw : K.nw = false) (hEL : EW K.Z a0 K.E) (hme : ("java/lang/String", 7) ∈ K.E)
    (x a : Addr) (g : Int32) (cs : List Int32) (h : Heap)
    (hcap : cs.length ≤ 7) (hcs : o_0i cs) (A : o_g K.Z h a .char (o_p cs))
    (E : Exa K.Z h x "java/lang/String") (FV : Fld K.Z h x "java/lang/String" "value" "[B" .null) (FC : Fld K.Z h x "java/lang/String" "coder" "B" (.int 0)) (SC : Sta K.Z K.Z.heap "java/lang/String" "COMPACT_STRINGS" "Z" (.int g)) (hg : ¬ g = 0)
    (hl : o_n cs = true)
    : o_9 K M_si1 #[.ref x, .ref a] [x] h (o_09 fun h' _ => Keep h h' [x] ∧ o_h K.Z h' x cs) := by
  have hz : (cs.length.toInt32).toInt = cs.length := o_0o _ (by omega)
  refine o_08 (M := M_si1) pn_si1 rfl (by first | rfl | exact o_5 (by assumption)) (by first | rfl | exact o_5 (by assumption)) ?_
  refine o_1 (pc' := 1) rfl d_si1_0 rfl (by first | rfl | assumption) ?_
  refine o_1 (pc' := 2) rfl d_si1_1 rfl (by first | rfl | assumption) ?_
  refine o_4 (v := (0 : Int32)) (pc' := 3) rfl d_si1_2 rfl ?_
  refine o_1 (pc' := 4) rfl d_si1_3 rfl (by first | rfl | assumption) ?_
  refine o_01 (z := cs.length.toInt32) (pc' := 5) rfl d_si1_4 A (by rw [hz]; simp) ?_
  refine o_1c (pc' := 6) rfl d_si1_5 ?_
  refine o_4n (M' := M_si4) d_si1_6 (pc' := 9) rfl rfl rfl (tw_31 hw) (tw_32 hw) (tw_2 hw) (tw_33 hw) (by decide) rfl (o_6 pd_3 rfl) rfl rfl rfl rfl (c_si4 K a0 hw  hnw hEL hme x a _ g cs h hz  hcap hcs A E FV FC SC hg hl) (by simp) ?_
  intro h1 xs q
  refine o_0b rfl d_si1_9 rfl rfl ?_
  exact q
theorem o_4d (c : Int32) : 0 ≤ (c &&& 255).toInt ∧ (c &&& 255).toInt < 256 ∧ (c &&& 255).toInt < 65536 := by
  have := c_mask c 255 8 (by decide) (by decide)
  rw [this]
  omega
def o_7x (c : Int32) : Int32 := c.toUInt32.toUInt16.toUInt32.toInt32
/-! STRINGS, their methods -/
abbrev o_l : String := "java/lang/String"
theorem o_64 {cs : List Int32} : (o_n cs = true → (o_p (o_1r cs)).length = cs.length) ∧ (o_n cs = false → (o_p (o_1r cs)).length = 2 * cs.length) :=
  ⟨fun q => by simp [(o_0e q).1], fun q => by simp [(o_2a q).1, o_63]⟩
theorem o_2f {c : Int32} (h0 : 0 ≤ c.toInt) (h1 : c.toInt < 256) : o_04 c &&& 255 = c := by
  apply Int32.toInt_inj.mp
  have b1 := c_mask (o_04 c) 255 8 (by decide) (by decide)
  have b2 := (c_i2b c).1
  have : (o_04 c).toInt = c.toInt8.toInt32.toInt := rfl
  omega
theorem d_cdr_0 : decode Bn61 0 = .ok (.getstatic 38, 3) := by decide +kernel
theorem d_cdr_3 : decode Bn61 3 = .ok (.ifCond .eq 10, 3) := by decide +kernel
theorem d_cdr_6 : decode Bn61 6 = .ok (.aload_n 0, 1) := by decide +kernel
theorem d_cdr_7 : decode Bn61 7 = .ok (.getfield 15, 3) := by decide +kernel
theorem d_cdr_10 : decode Bn61 10 = .ok (.goto 4, 3) := by decide +kernel
theorem d_cdr_14 : decode Bn61 14 = .ok (.ireturn, 1) := by decide +kernel
abbrev M_cdr : o_7 := (Yn4, jdk_42_method_152_code, 1, (Option.some FieldType.byte), ({ frames := 0, cells := 0, slots := 0, locals := 0 } : Room))
theorem pn_cdr : plainFor (o_7.y M_cdr) = true := plainFor_of_name (by first | (simp [plainName, overriddenIn]; done) | decide +kernel)
theorem c_cdr (K : o_b) (a0 : Array Value) (hw : ∀ d ∈ tables_1, d.before a0 K.Z = true) (g : Int32) (SC : Sta K.Z K.Z.heap o_l "COMPACT_STRINGS" "Z" (.int g)) (hg : ¬ g = 0) (x : Addr) (cs : List Int32) (h : Heap) (S : o_h K.Z h x cs) :
    o_9 K M_cdr #[.ref x] [] h (o_c fun w h' _ => w = .int (o_1z cs) ∧ h' = h) := by
  obtain ⟨E, hcs, hl, b, FV, FC, B⟩ := S
  refine o_x (M := M_cdr) pn_cdr rfl (by first | rfl | exact o_5 (by assumption)) ?_
  refine o_2o (pc' := 3) rfl d_cdr_0 (tw_4 hw) Via.refl (by assumption) ?_
  refine o_k (pcT := 13) (pcF := 6) d_cdr_3 (by decide) (by decide) rfl (fun q => ?_) (fun q => ?_)
  · exact absurd q hg
  · skip
    refine o_1 (pc' := 7) rfl d_cdr_6 rfl (by first | rfl | assumption) ?_
    refine o_q (pc' := 10) rfl d_cdr_7 (tw_24 hw) Via.refl (by assumption) ?_
    refine o_o (pc' := 14) d_cdr_10 (by decide) (by decide) ?_
    refine o_y (t := .byte) rfl (by simp) (z' := o_1z cs) (by unfold o_1z; split <;> rfl) d_cdr_14 rfl rfl ?_
    exact ⟨rfl, rfl⟩
theorem d_sl_0 : decode Bn55 0 = .ok (.aload_n 0, 1) := by decide +kernel
theorem d_sl_1 : decode Bn55 1 = .ok (.getfield 9, 3) := by decide +kernel
theorem d_sl_4 : decode Bn55 4 = .ok (.arraylength, 1) := by decide +kernel
theorem d_sl_5 : decode Bn55 5 = .ok (.aload_n 0, 1) := by decide +kernel
theorem d_sl_6 : decode Bn55 6 = .ok (.invokevirtual 335, 3) := by decide +kernel
theorem d_sl_9 : decode Bn55 9 = .ok (.ishr, 1) := by decide +kernel
theorem d_sl_10 : decode Bn55 10 = .ok (.ireturn, 1) := by decide +kernel
abbrev M_sl : o_7 := (Yn3, jdk_42_method_54_code, 1, (Option.some FieldType.int), ({ frames := 1, cells := 0, slots := 0, locals := 14 } : Room))
theorem pn_sl : plainFor (o_7.y M_sl) = true := plainFor_of_name (by first | (simp [plainName, overriddenIn]; done) | decide +kernel)
theorem c_sl (K : o_b) (a0 : Array Value) (hw : ∀ d ∈ tables_1, d.before a0 K.Z = true) (g : Int32) (SC : Sta K.Z K.Z.heap o_l "COMPACT_STRINGS" "Z" (.int g)) (hg : ¬ g = 0) (x : Addr) (cs : List Int32) (h : Heap) (S : o_h K.Z h x cs) :
    o_9 K M_sl #[.ref x] [] h (o_c fun w h' _ => w = .int cs.length.toInt32 ∧ h' = h) := by
  have S' := S
  obtain ⟨E, hcs, hl, b, FV, FC, B⟩ := S'
  have hn : (cs.length.toInt32).toInt = cs.length := o_0o _ (by omega)
  cases ql : o_n cs
  · have hz : ((2 * cs.length).toInt32).toInt = ((2 * cs.length : Nat) : Int) := o_0o _ (by omega)
    refine o_x (M := M_sl) pn_sl rfl (by first | rfl | exact o_5 (by assumption)) ?_
    refine o_1 (pc' := 1) rfl d_sl_0 rfl (by first | rfl | assumption) ?_
    refine o_q (pc' := 4) rfl d_sl_1 (tw_22 hw) Via.refl (by assumption) ?_
    refine o_01 (z := (2 * cs.length).toInt32) (pc' := 5) rfl d_sl_4 B (by rw [hz, o_64.2 ql]) ?_
    refine o_1 (pc' := 6) rfl d_sl_5 rfl (by first | rfl | assumption) ?_
    refine o_0p (M' := M_cdr) d_sl_6 (pc' := 9) rfl (tw_326 hw) (tw_327 hw) (tw_329 hw) (tw_328 hw) (tw_2 hw) (tw_330 hw) (by decide) rfl (o_6 pd_4 rfl) rfl rfl rfl rfl E (c_cdr K a0 hw g SC hg x cs h S) (by simp) ?_
    rintro w h1 xs ⟨rfl, rfl⟩
    refine o_7p (pc' := 10) rfl d_sl_9 ?_
    refine o_00 rfl d_sl_10 rfl rfl ?_
    refine ⟨?_, rfl⟩
    rw [(o_2a ql).2]
    congr 1
    apply Int32.toInt_inj.mp
    have := c_ishr (2 * cs.length).toInt32 1 1 (by decide)
    rw [this, hn, hz]
    omega
  · skip
    refine o_x (M := M_sl) pn_sl rfl (by first | rfl | exact o_5 (by assumption)) ?_
    refine o_1 (pc' := 1) rfl d_sl_0 rfl (by first | rfl | assumption) ?_
    refine o_q (pc' := 4) rfl d_sl_1 (tw_22 hw) Via.refl (by assumption) ?_
    refine o_01 (z := cs.length.toInt32) (pc' := 5) rfl d_sl_4 B (by rw [hn, o_64.1 ql]) ?_
    refine o_1 (pc' := 6) rfl d_sl_5 rfl (by first | rfl | assumption) ?_
    refine o_0p (M' := M_cdr) d_sl_6 (pc' := 9) rfl (tw_326 hw) (tw_327 hw) (tw_329 hw) (tw_328 hw) (tw_2 hw) (tw_330 hw) (by decide) rfl (o_6 pd_4 rfl) rfl rfl rfl rfl E (c_cdr K a0 hw g SC hg x cs h S) (by simp) ?_
    rintro w h1 xs ⟨rfl, rfl⟩
    refine o_7p (pc' := 10) rfl d_sl_9 ?_
    refine o_00 rfl d_sl_10 rfl rfl ?_
    exact ⟨by rw [(o_0e ql).2, o_9n], rfl⟩
theorem d_isl_0 : decode Bn40 0 = .ok (.getstatic 38, 3) := by decide +kernel
theorem d_isl_3 : decode Bn40 3 = .ok (.ifCond .eq 14, 3) := by decide +kernel
theorem d_isl_6 : decode Bn40 6 = .ok (.aload_n 0, 1) := by decide +kernel
theorem d_isl_7 : decode Bn40 7 = .ok (.getfield 15, 3) := by decide +kernel
theorem d_isl_10 : decode Bn40 10 = .ok (.ifCond .ne 7, 3) := by decide +kernel
theorem d_isl_13 : decode Bn40 13 = .ok (.iconst 1, 1) := by decide +kernel
theorem d_isl_14 : decode Bn40 14 = .ok (.goto 4, 3) := by decide +kernel
theorem d_isl_17 : decode Bn40 17 = .ok (.iconst 0, 1) := by decide +kernel
theorem d_isl_18 : decode Bn40 18 = .ok (.ireturn, 1) := by decide +kernel
abbrev M_isl : o_7 := (Yn5, jdk_42_method_154_code, 1, (Option.some FieldType.boolean), ({ frames := 0, cells := 0, slots := 0, locals := 0 } : Room))
theorem pn_isl : plainFor (o_7.y M_isl) = true := plainFor_of_name (by first | (simp [plainName, overriddenIn]; done) | decide +kernel)
theorem c_isl (K : o_b) (a0 : Array Value) (hw : ∀ d ∈ tables_1, d.before a0 K.Z = true) (g : Int32) (SC : Sta K.Z K.Z.heap o_l "COMPACT_STRINGS" "Z" (.int g)) (hg : ¬ g = 0) (x : Addr) (cs : List Int32) (h : Heap) (S : o_h K.Z h x cs) :
    o_9 K M_isl #[.ref x] [] h (o_c fun w h' _ => w = .int (if o_n cs then 1 else 0) ∧ h' = h) := by
  obtain ⟨E, hcs, hl, b, FV, FC, B⟩ := S
  refine o_x (M := M_isl) pn_isl rfl (by first | rfl | exact o_5 (by assumption)) ?_
  refine o_2o (pc' := 3) rfl d_isl_0 (tw_4 hw) Via.refl (by assumption) ?_
  refine o_k (pcT := 17) (pcF := 6) d_isl_3 (by decide) (by decide) rfl (fun q => ?_) (fun q => ?_)
  · exact absurd q hg
  · skip
    refine o_1 (pc' := 7) rfl d_isl_6 rfl (by first | rfl | assumption) ?_
    refine o_q (pc' := 10) rfl d_isl_7 (tw_24 hw) Via.refl (by assumption) ?_
    refine o_0k (pcT := 17) (pcF := 13) d_isl_10 (by decide) (by decide) rfl (fun q2 => ?_) (fun q2 => ?_)
    · skip
      refine o_4 (v := (0 : Int32)) (pc' := 18) rfl d_isl_17 rfl ?_
      refine o_y (t := .boolean) rfl (by simp) (by first | exact o_0v | exact o_0w | rfl) d_isl_18 rfl rfl ?_
      refine ⟨?_, rfl⟩
      cases ql : o_n cs
      · rfl
      · exact absurd (o_0e ql).2 q2
    · skip
      refine o_4 (v := (1 : Int32)) (pc' := 14) rfl d_isl_13 rfl ?_
      refine o_o (pc' := 18) d_isl_14 (by decide) (by decide) ?_
      refine o_y (t := .boolean) rfl (by simp) (by first | exact o_0v | exact o_0w | rfl) d_isl_18 rfl rfl ?_
      refine ⟨?_, rfl⟩
      cases ql : o_n cs
      · rw [(o_2a ql).2] at q2; cases q2
      · rfl
theorem o_8e {Z : State} {h : Heap} {b : Addr} {t t' : FieldType} {vs ws : List Value} (A : o_g Z h b t vs) (B : o_g Z h b t' ws) : vs = ws := by
  obtain ⟨c, a1, a2, -⟩ := A
  obtain ⟨c', b1, b2, -⟩ := B
  cases a1.1.symm.trans b1.1
  rw [a2] at b2
  simpa using b2
theorem o_65 {Z : State} {h : Heap} {a : Addr} {C n d : String} {v w : Value} (F : Fld Z h a C n d v) (G : Fld Z h a C n d w) : v = w := by
  refine Decidable.byContradiction fun q => ?_
  exact F.ne G q rfl
theorem o_7y {xs ys : List Int32} (q : o_p xs = o_p ys) : xs = ys := by
  have := congrArg (List.map fun v => match v with | Value.int x => x | _ => 0) q
  simpa [o_p, List.map_map, Function.comp_def] using this
theorem o_8f : ∀ {cs ds : List Int32}, o_0i cs → o_0i ds → o_2m cs = o_2m ds → cs = ds := by
  intro cs
  induction cs with
  | nil => intro ds _ _ q; cases ds with | nil => rfl | cons d r => simp [o_2m] at q
  | cons c r ih =>
    intro ds h1 h2 q
    cases ds with
    | nil => simp [o_2m] at q
    | cons d s =>
      have e1 : o_2m (c :: r) = o_04 c :: o_36 c :: o_2m r := rfl
      have e2 : o_2m (d :: s) = o_04 d :: o_36 d :: o_2m s := rfl
      rw [e1, e2] at q
      injection q with q1 q
      injection q with q2 q3
      have hc := h1 c (by simp)
      have hd := h2 d (by simp)
      have e : c = d := by rw [← o_7w hc.1 hc.2, ← o_7w hd.1 hd.2, q1, q2]
      rw [e, ih (fun z hz => h1 z (by simp [hz])) (fun z hz => h2 z (by simp [hz])) q3]
theorem o_8g : ∀ {cs ds : List Int32}, o_0i cs → o_0i ds → o_n cs = true → o_n ds = true → cs.map o_04 = ds.map o_04 → cs = ds := by
  intro cs
  induction cs with
  | nil => intro ds _ _ _ _ q; cases ds with | nil => rfl | cons d r => simp at q
  | cons c r ih =>
    intro ds h1 h2 l1 l2 q
    cases ds with
    | nil => simp at q
    | cons d s =>
      simp only [List.map_cons] at q
      injection q with q1 q2
      have hc := h1 c (by simp)
      have hd := h2 d (by simp)
      have lc := o_2l l1 (i := 0) (c := c) rfl
      have ld := o_2l l2 (i := 0) (c := d) rfl
      have e : c = d := by rw [← o_2f hc.1 lc, ← o_2f hd.1 ld, q1]
      simp only [o_n, List.all_cons, Bool.and_eq_true] at l1 l2
      rw [e, ih (fun z hz => h1 z (by simp [hz])) (fun z hz => h2 z (by simp [hz])) l1.2 l2.2 q2]
theorem o_66 {cs ds : List Int32} (h1 : o_0i cs) (h2 : o_0i ds) (hl : o_1z cs = o_1z ds) (q : o_1r cs = o_1r ds) : cs = ds := by
  cases l1 : o_n cs <;> cases l2 : o_n ds
  · rw [(o_2a l1).1, (o_2a l2).1] at q; exact o_8f h1 h2 q
  · rw [(o_2a l1).2, (o_0e l2).2] at hl; cases hl
  · rw [(o_0e l1).2, (o_2a l2).2] at hl; cases hl
  · rw [(o_0e l1).1, (o_0e l2).1] at q; exact o_8g h1 h2 l1 l2 q
theorem o_8h {Z : State} {h : Heap} {x : Addr} {cs ds : List Int32} (S : o_h Z h x cs) (T : o_h Z h x ds) : cs = ds := by
  obtain ⟨-, h1, -, b, f1, f2, f3⟩ := S
  obtain ⟨-, g1, -, d, k1, k2, k3⟩ := T
  cases o_65 f1 k1
  exact o_66 h1 g1 (Value.int.inj (o_65 f2 k2)) (o_7y (o_8e f3 k3))
theorem d_leq_0 : decode Bn8 0 = .ok (.aload_n 0, 1) := by decide +kernel
theorem d_leq_1 : decode Bn8 1 = .ok (.arraylength, 1) := by decide +kernel
theorem d_leq_2 : decode Bn8 2 = .ok (.aload_n 1, 1) := by decide +kernel
theorem d_leq_3 : decode Bn8 3 = .ok (.arraylength, 1) := by decide +kernel
theorem d_leq_4 : decode Bn8 4 = .ok (.if_icmp .ne 30, 3) := by decide +kernel
theorem d_leq_7 : decode Bn8 7 = .ok (.iconst 0, 1) := by decide +kernel
theorem d_leq_8 : decode Bn8 8 = .ok (.istore_n 2, 1) := by decide +kernel
theorem d_leq_9 : decode Bn8 9 = .ok (.iload_n 2, 1) := by decide +kernel
theorem d_leq_10 : decode Bn8 10 = .ok (.aload_n 0, 1) := by decide +kernel
theorem d_leq_11 : decode Bn8 11 = .ok (.arraylength, 1) := by decide +kernel
theorem d_leq_12 : decode Bn8 12 = .ok (.if_icmp .ge 20, 3) := by decide +kernel
theorem d_leq_15 : decode Bn8 15 = .ok (.aload_n 0, 1) := by decide +kernel
theorem d_leq_16 : decode Bn8 16 = .ok (.iload_n 2, 1) := by decide +kernel
theorem d_leq_17 : decode Bn8 17 = .ok (.baload, 1) := by decide +kernel
theorem d_leq_18 : decode Bn8 18 = .ok (.aload_n 1, 1) := by decide +kernel
theorem d_leq_19 : decode Bn8 19 = .ok (.iload_n 2, 1) := by decide +kernel
theorem d_leq_20 : decode Bn8 20 = .ok (.baload, 1) := by decide +kernel
theorem d_leq_21 : decode Bn8 21 = .ok (.if_icmp .eq 5, 3) := by decide +kernel
theorem d_leq_24 : decode Bn8 24 = .ok (.iconst 0, 1) := by decide +kernel
theorem d_leq_25 : decode Bn8 25 = .ok (.ireturn, 1) := by decide +kernel
theorem d_leq_26 : decode Bn8 26 = .ok (.iinc 2 1, 3) := by decide +kernel
theorem d_leq_29 : decode Bn8 29 = .ok (.goto (-20), 3) := by decide +kernel
theorem d_leq_32 : decode Bn8 32 = .ok (.iconst 1, 1) := by decide +kernel
theorem d_leq_33 : decode Bn8 33 = .ok (.ireturn, 1) := by decide +kernel
theorem d_leq_34 : decode Bn8 34 = .ok (.iconst 0, 1) := by decide +kernel
theorem d_leq_35 : decode Bn8 35 = .ok (.ireturn, 1) := by decide +kernel
abbrev M_leq : o_7 := (Yn48, jdk_43_method_13_code, 3, (Option.some FieldType.boolean), ({ frames := 0, cells := 0, slots := 0, locals := 0 } : Room))
theorem pn_leq : plainFor (o_7.y M_leq) = true := plainFor_of_name (by first | (simp [plainName, overriddenIn]; done) | decide +kernel)
theorem c_leq (K : o_b) (a0 : Array Value) (hw : ∀ d ∈ tables_1, d.before a0 K.Z = true) (a b : Addr) (xs ys : List Int32) (h : Heap) (A : o_g K.Z h a .byte (o_p xs)) (B : o_g K.Z h b .byte (o_p ys)) :
    o_9 K M_leq #[.ref a, .ref b] [] h (o_c fun w h' _ => w = .int (if xs = ys then 1 else 0) ∧ h' = h) := by
  have la : xs.length < 2 ^ 31 := by obtain ⟨_, _, _, q⟩ := A; simpa using q
  have lb : ys.length < 2 ^ 31 := by obtain ⟨_, _, _, q⟩ := B; simpa using q
  have ha : (xs.length.toInt32).toInt = xs.length := o_0o _ la
  have hb : (ys.length.toInt32).toInt = ys.length := o_0o _ lb
  refine o_4h (M := M_leq) pn_leq rfl (by first | rfl | exact o_5 (by assumption)) (by first | rfl | exact o_5 (by assumption)) ?_
  refine o_1 (pc' := 1) rfl d_leq_0 rfl (by first | rfl | assumption) ?_
  refine o_01 (z := xs.length.toInt32) (pc' := 2) rfl d_leq_1 A (by rw [ha]; simp) ?_
  refine o_1 (pc' := 3) rfl d_leq_2 rfl (by first | rfl | assumption) ?_
  refine o_01 (z := ys.length.toInt32) (pc' := 4) rfl d_leq_3 B (by rw [hb]; simp) ?_
  refine o_07 (pcT := 34) (pcF := 7) d_leq_4 (by decide) (by decide) rfl (fun q => ?_) (fun q => ?_)
  · skip
    refine o_4 (v := (0 : Int32)) (pc' := 35) rfl d_leq_34 rfl ?_
    refine o_y (t := .boolean) rfl (by simp) (by first | exact o_0v | exact o_0w | rfl) d_leq_35 rfl rfl ?_
    refine ⟨?_, rfl⟩
    rw [if_neg]
    intro e
    exact q (by rw [e])
  · have hlen : xs.length = ys.length := by
      have := congrArg Int32.toInt q
      omega
    refine o_4 (v := (0 : Int32)) (pc' := 8) rfl d_leq_7 rfl ?_
    refine o_2s (pc' := 9) rfl d_leq_8 (by first | exact One.u | exact One.val rfl | assumption | exact One.val (by assumption)) ?_
    suffices key : ∀ (k i : Nat) (j : Int32), i + k = xs.length → j.toInt = i → xs.take i = ys.take i → o_3 K M_leq (o_c fun w h' _ => w = .int (if xs = ys then 1 else 0) ∧ h' = h) 9 [.val (.ref a), .val (.ref b), .val (.int j)] [] [] h 0 0 from
      key xs.length 0 0 (by simp) rfl (by simp)
    intro k
    induction k with
    | zero =>
      intro i j hik hj ht
      refine o_2 (pc' := 10) rfl d_leq_9 rfl ?_
      refine o_1 (pc' := 11) rfl d_leq_10 rfl (by first | rfl | assumption) ?_
      refine o_01 (z := xs.length.toInt32) (pc' := 12) rfl d_leq_11 A (by rw [ha]; simp) ?_
      refine o_14 (pcT := 32) (pcF := 15) d_leq_12 (by decide) (by decide) rfl (fun q2 => ?_) (fun q2 => ?_)
      · skip
        refine o_4 (v := (1 : Int32)) (pc' := 33) rfl d_leq_32 rfl ?_
        refine o_y (t := .boolean) rfl (by simp) (by first | exact o_0v | exact o_0w | rfl) d_leq_33 rfl rfl ?_
        refine ⟨?_, rfl⟩
        rw [if_pos]
        rw [List.take_of_length_le (by omega), List.take_of_length_le (by omega)] at ht
        exact ht
      · rw [Int32.lt_iff_toInt_lt] at q2; omega
    | succ k ih =>
      intro i j hik hj ht
      have hi : i < xs.length := by omega
      obtain ⟨c, hc⟩ : ∃ c, xs[i]? = some c := ⟨xs[i], by simp [hi]⟩
      obtain ⟨d, hd⟩ : ∃ d, ys[i]? = some d := ⟨ys[i], by simp [show i < ys.length by omega]⟩
      refine o_2 (pc' := 10) rfl d_leq_9 rfl ?_
      refine o_1 (pc' := 11) rfl d_leq_10 rfl (by first | rfl | assumption) ?_
      refine o_01 (z := xs.length.toInt32) (pc' := 12) rfl d_leq_11 A (by rw [ha]; simp) ?_
      refine o_14 (pcT := 32) (pcF := 15) d_leq_12 (by decide) (by decide) rfl (fun q2 => ?_) (fun q2 => ?_)
      · exact absurd (by rw [Int32.lt_iff_toInt_lt]; omega) q2
      · skip
        refine o_1 (pc' := 16) rfl d_leq_15 rfl (by first | rfl | assumption) ?_
        refine o_2 (pc' := 17) rfl d_leq_16 rfl ?_
        refine o_34 (pc' := 18) rfl d_leq_17 A (i := i) hj (by first | exact o_42 hc | exact o_2h hc) ?_
        refine o_1 (pc' := 19) rfl d_leq_18 rfl (by first | rfl | assumption) ?_
        refine o_2 (pc' := 20) rfl d_leq_19 rfl ?_
        refine o_34 (pc' := 21) rfl d_leq_20 B (i := i) hj (by first | exact o_42 hd | exact o_2h hd) ?_
        refine o_33 (pcT := 26) (pcF := 24) d_leq_21 (by decide) (by decide) rfl (fun q3 => ?_) (fun q3 => ?_)
        · skip
          refine o_4q (z := (1 : Int32)) (pc' := 29) rfl d_leq_26 rfl ?_
          refine o_o (pc' := 9) d_leq_29 (by decide) (by decide) ?_
          refine ih (i + 1) (j + 1) (by omega) (by rw [o_20 hj (by rfl : (1 : Int32).toInt = 1)] <;> omega) ?_
          rw [List.take_add_one, List.take_add_one, hc, hd, ht, q3]
        · skip
          refine o_4 (v := (0 : Int32)) (pc' := 25) rfl d_leq_24 rfl ?_
          refine o_y (t := .boolean) rfl (by simp) (by first | exact o_0v | exact o_0w | rfl) d_leq_25 rfl rfl ?_
          refine ⟨?_, rfl⟩
          rw [if_neg]
          intro e
          rw [e, hd] at hc
          exact q3 (Option.some.inj hc).symm
theorem d_seq_0 : decode Bn6 0 = .ok (.aload_n 0, 1) := by decide +kernel
theorem d_seq_1 : decode Bn6 1 = .ok (.aload_n 1, 1) := by decide +kernel
theorem d_seq_2 : decode Bn6 2 = .ok (.if_acmp .ne 5, 3) := by decide +kernel
theorem d_seq_5 : decode Bn6 5 = .ok (.iconst 1, 1) := by decide +kernel
theorem d_seq_6 : decode Bn6 6 = .ok (.ireturn, 1) := by decide +kernel
theorem d_seq_7 : decode Bn6 7 = .ok (.aload_n 1, 1) := by decide +kernel
theorem d_seq_8 : decode Bn6 8 = .ok (.instanceof 10, 3) := by decide +kernel
theorem d_seq_11 : decode Bn6 11 = .ok (.ifCond .eq 43, 3) := by decide +kernel
theorem d_seq_14 : decode Bn6 14 = .ok (.aload_n 1, 1) := by decide +kernel
theorem d_seq_15 : decode Bn6 15 = .ok (.checkcast 10, 3) := by decide +kernel
theorem d_seq_18 : decode Bn6 18 = .ok (.astore_n 2, 1) := by decide +kernel
theorem d_seq_19 : decode Bn6 19 = .ok (.getstatic 38, 3) := by decide +kernel
theorem d_seq_22 : decode Bn6 22 = .ok (.ifCond .eq 14, 3) := by decide +kernel
theorem d_seq_25 : decode Bn6 25 = .ok (.aload_n 0, 1) := by decide +kernel
theorem d_seq_26 : decode Bn6 26 = .ok (.getfield 15, 3) := by decide +kernel
theorem d_seq_29 : decode Bn6 29 = .ok (.aload_n 2, 1) := by decide +kernel
theorem d_seq_30 : decode Bn6 30 = .ok (.getfield 15, 3) := by decide +kernel
theorem d_seq_33 : decode Bn6 33 = .ok (.if_icmp .ne 21, 3) := by decide +kernel
theorem d_seq_36 : decode Bn6 36 = .ok (.aload_n 0, 1) := by decide +kernel
theorem d_seq_37 : decode Bn6 37 = .ok (.getfield 9, 3) := by decide +kernel
theorem d_seq_40 : decode Bn6 40 = .ok (.aload_n 2, 1) := by decide +kernel
theorem d_seq_41 : decode Bn6 41 = .ok (.getfield 9, 3) := by decide +kernel
theorem d_seq_44 : decode Bn6 44 = .ok (.invokestatic 541, 3) := by decide +kernel
theorem d_seq_47 : decode Bn6 47 = .ok (.ifCond .eq 7, 3) := by decide +kernel
theorem d_seq_50 : decode Bn6 50 = .ok (.iconst 1, 1) := by decide +kernel
theorem d_seq_51 : decode Bn6 51 = .ok (.goto 4, 3) := by decide +kernel
theorem d_seq_54 : decode Bn6 54 = .ok (.iconst 0, 1) := by decide +kernel
theorem d_seq_55 : decode Bn6 55 = .ok (.ireturn, 1) := by decide +kernel
abbrev M_seq : o_7 := (Yn0, jdk_42_method_66_code, 3, (Option.some FieldType.boolean), ({ frames := 1, cells := 0, slots := 0, locals := 14 } : Room))
theorem pn_seq : plainFor (o_7.y M_seq) = true := plainFor_of_name (by first | (simp [plainName, overriddenIn]; done) | decide +kernel)
theorem c_seq (K : o_b) (a0 : Array Value) (hw : ∀ d ∈ tables_1, d.before a0 K.Z = true) (g : Int32) (SC : Sta K.Z K.Z.heap o_l "COMPACT_STRINGS" "Z" (.int g)) (hg : ¬ g = 0) (x y : Addr) (cs ds : List Int32) (h : Heap) (S : o_h K.Z h x cs) (T : o_h K.Z h y ds) :
    o_9 K M_seq #[.ref x, .ref y] [] h (o_c fun w h' _ => w = .int (if cs = ds then 1 else 0) ∧ h' = h) := by
  have S' := S
  have T' := T
  obtain ⟨E, hcs, hl, b, FV, FC, B⟩ := S'
  obtain ⟨E2, hds, hl2, b2, FV2, FC2, B2⟩ := T'
  refine o_4h (M := M_seq) pn_seq rfl (by first | rfl | exact o_5 (by assumption)) (by first | rfl | exact o_5 (by assumption)) ?_
  refine o_1 (pc' := 1) rfl d_seq_0 rfl (by first | rfl | assumption) ?_
  refine o_1 (pc' := 2) rfl d_seq_1 rfl (by first | rfl | assumption) ?_
  refine o_6g (pcT := 7) (pcF := 5) d_seq_2 (by decide) (by decide) rfl (by first | rfl | assumption) (by first | rfl | assumption) (fun q => ?_) (fun q => ?_)
  · skip
    refine o_1 (pc' := 8) rfl d_seq_7 rfl (by first | rfl | assumption) ?_
    refine o_9a (pc' := 11) rfl d_seq_8 (tw_9 hw) (Ins.self E2) ?_
    refine o_k (pcT := 54) (pcF := 14) d_seq_11 (by decide) (by decide) rfl (fun q1 => ?_) (fun q1 => ?_)
    · exact absurd q1 (by decide)
    · skip
      refine o_1 (pc' := 15) rfl d_seq_14 rfl (by first | rfl | assumption) ?_
      refine o_24 (pc' := 18) rfl d_seq_15 (tw_9 hw) (Ins.self E2) ?_
      refine o_23 (pc' := 19) rfl d_seq_18 (by first | exact One.u | exact One.val rfl | assumption | exact One.val (by assumption)) (by first | rfl | assumption) ?_
      refine o_2o (pc' := 22) rfl d_seq_19 (tw_4 hw) Via.refl (by assumption) ?_
      refine o_k (pcT := 36) (pcF := 25) d_seq_22 (by decide) (by decide) rfl (fun q2 => ?_) (fun q2 => ?_)
      · exact absurd q2 hg
      · skip
        refine o_1 (pc' := 26) rfl d_seq_25 rfl (by first | rfl | assumption) ?_
        refine o_q (pc' := 29) rfl d_seq_26 (tw_24 hw) Via.refl FC ?_
        refine o_1 (pc' := 30) rfl d_seq_29 rfl (by first | rfl | assumption) ?_
        refine o_q (pc' := 33) rfl d_seq_30 (tw_24 hw) Via.refl FC2 ?_
        refine o_07 (pcT := 54) (pcF := 36) d_seq_33 (by decide) (by decide) rfl (fun q3 => ?_) (fun q3 => ?_)
        · skip
          refine o_4 (v := (0 : Int32)) (pc' := 55) rfl d_seq_54 rfl ?_
          refine o_y (t := .boolean) rfl (by simp) (by first | exact o_0v | exact o_0w | rfl) d_seq_55 rfl rfl ?_
          refine ⟨?_, rfl⟩
          rw [if_neg]
          intro e
          exact q3 (by rw [e])
        · skip
          refine o_1 (pc' := 37) rfl d_seq_36 rfl (by first | rfl | assumption) ?_
          refine o_q (pc' := 40) rfl d_seq_37 (tw_22 hw) Via.refl FV ?_
          refine o_1 (pc' := 41) rfl d_seq_40 rfl (by first | rfl | assumption) ?_
          refine o_q (pc' := 44) rfl d_seq_41 (tw_22 hw) Via.refl FV2 ?_
          refine o_0n (M' := M_leq) d_seq_44 (pc' := 47) rfl (o_0 hw 119 rfl) (o_0 hw 120 rfl) (tw_7 hw) (o_0 hw 121 rfl) (by decide) rfl (o_6 pd_5 rfl) rfl rfl rfl rfl (c_leq K a0 hw b b2 _ _ h B B2) (by simp) ?_
          rintro w h1 xs ⟨rfl, rfl⟩
          have hq : o_1r cs = o_1r ds ↔ cs = ds := ⟨fun z => o_66 hcs hds q3 z, fun z => by rw [z]⟩
          simp only [hq]
          by_cases z : cs = ds
          · rw [if_pos z]
            refine o_k (pcT := 54) (pcF := 50) d_seq_47 (by decide) (by decide) rfl (fun q4 => ?_) (fun q4 => ?_)
            · exact absurd q4 (by decide)
            · skip
              refine o_4 (v := (1 : Int32)) (pc' := 51) rfl d_seq_50 rfl ?_
              refine o_o (pc' := 55) d_seq_51 (by decide) (by decide) ?_
              refine o_y (t := .boolean) rfl (by simp) (by first | exact o_0v | exact o_0w | rfl) d_seq_55 rfl rfl ?_
              exact ⟨rfl, rfl⟩
          · rw [if_neg z]
            refine o_k (pcT := 54) (pcF := 50) d_seq_47 (by decide) (by decide) rfl (fun q4 => ?_) (fun q4 => ?_)
            · skip
              refine o_4 (v := (0 : Int32)) (pc' := 55) rfl d_seq_54 rfl ?_
              refine o_y (t := .boolean) rfl (by simp) (by first | exact o_0v | exact o_0w | rfl) d_seq_55 rfl rfl ?_
              exact ⟨rfl, rfl⟩
            · exact absurd rfl q4
  · skip
    refine o_4 (v := (1 : Int32)) (pc' := 6) rfl d_seq_5 rfl ?_
    refine o_y (t := .boolean) rfl (by simp) (by first | exact o_0v | exact o_0w | rfl) d_seq_6 rfl rfl ?_
    refine ⟨?_, rfl⟩
    cases q
    rw [if_pos (o_8h S T)]
/-! System.arraycopy between arrays of one primitive type -/
theorem o_6r {Z : State} {h : Heap} {b : Addr} {ty : FieldType} {vs : List Value} {d : Value} (F : o_g Z h b ty vs) (hf : ∀ v ∈ vs, fits ty v = true) : ∃ k : ClassId, Arv Z h b k ty vs.length.toInt32 vs d := by
  obtain ⟨c, A, r1, r2⟩ := F
  have e1 : (vs.length.toInt32).toInt = vs.length := o_4a r2
  have e2 : (vs.length.toInt32).toNatClampNeg = vs.length := by
    have : (vs.length.toInt32).toNatClampNeg = (vs.length.toInt32).toInt.toNat := rfl
    rw [this, e1]; rfl
  refine ⟨c.cls, c, A, rfl, by rw [r1, e2]; simp, fun z => ?_, fun i hi => ?_, fun i hi => ?_⟩
  · rw [Int32.lt_iff_toInt_lt, e1] at z
    have : (0 : Int32).toInt = 0 := rfl
    omega
  · have hi' : i < vs.length := by rw [r1] at hi; simpa using hi
    rw [r1]; simp [hi']
  · have hi' : i < vs.length := by rw [r1] at hi; simpa using hi
    have : vs.getD i d = vs[i] := by simp [hi']
    rw [this]
    exact hf _ (List.getElem_mem hi')
theorem o_6q {vs : List Value} {d : Value} {S N : Nat} (q : S + N ≤ vs.length) : (List.range N).map (fun i => vs.getD (S + i) d) = (vs.drop S).take N := by
  apply List.ext_getElem
  · simp; omega
  · intro i h1 h2
    have : i < N := by simpa using h1
    simp [show S + i < vs.length by omega]
theorem o_6s {K : o_b} {M : o_7} {Q : o_0g} {pc pc' : Nat} {Ls : List Slot} {rest : List Value} {sf : List Addr} {h : Heap} {cs sl : Nat} {a0 : Array Value} {index : Nat} {a b : Addr} {ty : FieldType} {vs vd : List Value} {sp dp nn : Int32} {S D N : Nat}
    (hp : pc + 3 = pc') (hd : decode M.b pc = .ok (.invokestatic index, 3)) (w1 : (Jvm.Cond.methodLink M.y.cls index Jvm.Stand.acN).before a0 K.Z = true) (w2 : (Jvm.Cond.native Jvm.Stand.acN).before a0 K.Z = true) (w3 : (Jvm.Cond.static Jvm.Stand.acN).before a0 K.Z = true) (w4 : (Jvm.Cond.initialized "java/lang/System").before a0 K.Z = true)
    (hsz : Ls.length = M.mx) (hf : Nat.ble 1 M.R.frames = true) (hl : Nat.ble ((rest.map fun v => v.category).sum + (nativeFrameWords "java/lang/System" "arraycopy" 5 + 11)) M.R.locals = true) (hty : refKind ty = false)
    (A : o_g K.Z h a ty vs) (B : o_g K.Z h b ty vd) (fa : ∀ v ∈ vs, fits ty v = true) (fb : ∀ v ∈ vd, fits ty v = true) (hS : sp.toInt = S) (hD : dp.toInt = D) (hN : nn.toInt = N) (h4 : S + N ≤ vs.length) (h5 : D + N ≤ vd.length) (hbs : b ∈ sf)
    (k : ∀ h', Keep h h' [b] → o_g K.Z h' b ty (vd.take D ++ (vs.drop S).take N ++ vd.drop (D + N)) → o_3 K M Q pc' Ls rest sf h' cs sl) : o_3 K M Q pc Ls (.int nn :: .int dp :: .ref b :: .int sp :: .ref a :: rest) sf h cs sl := by
  subst hp
  intro p e s vm0 k0 m args below meth c T locs cs' sl' Bd X hc' hs' eT Fn I
  obtain ⟨i1, i2, i3, i4, i5, i6⟩ := I
  obtain ⟨ka, Aa⟩ := o_6r (d := .int 0) A fa
  obtain ⟨kb, Ab⟩ := o_6r (d := .int 0) B fb
  have lv : vs.length < 2 ^ 31 := by obtain ⟨_, _, _, r⟩ := A; exact r
  have ld : vd.length < 2 ^ 31 := by obtain ⟨_, _, _, r⟩ := B; exact r
  have nat : ∀ {x : Int32} {n : Nat}, x.toInt = n → x.toNatClampNeg = n ∧ ¬ x < 0 := fun {x n} q => by
    refine ⟨?_, fun z => ?_⟩
    · have : x.toNatClampNeg = x.toInt.toNat := rfl
      rw [this, q]; rfl
    · rw [Int32.lt_iff_toInt_lt, q] at z
      have : (0 : Int32).toInt = 0 := rfl
      omega
  have z1 := nat hS
  have z2 := nat hD
  have z3 := nat hN
  have z4 := nat (o_4a lv)
  have z5 := nat (o_4a ld)
  have hn := (i5 b hbs).1
  obtain ⟨T', h', L, X', e', N', kp, A', st⟩ := cpA X Bd.1 Bd.2.2.2.2.2.2.2.1 Bd.2.2.2.1 w1 w2 w3 w4 eT Aa Ab (Or.inl ⟨rfl, hty⟩) z1.2 z2.2 z3.2 (by omega) (by omega) rfl (by omega) Fn hn (g := mkF m pc Ls.toArray (.int nn :: .int dp :: .ref b :: .int sp :: .ref a :: rest)) rfl (by rw [Bd.2.2.1, ← hsz]; simp) rfl (hb Bd.2.1 hd) (Nat.le_of_ble_eq_true hf) (W := (rest.map fun v => v.category).sum) (by show 2 * 0 + _ ≤ _; omega) (Nat.le_of_ble_eq_true hl)
  rw [z1.1, z2.1, z3.1, o_6q h4] at A'
  have sk : ∀ x ∈ [b], Safe K.Z K.E vm0 h x := fun x hx => by cases List.mem_singleton.mp hx; exact (i5 b hbs).2.2
  have A2 : o_g K.Z h' b ty (vd.take D ++ (vs.drop S).take N ++ vd.drop (D + N)) := by
    have hl2 : (vd.take D ++ (vs.drop S).take N ++ vd.drop (D + N)).length = vd.length := by simp; omega
    obtain ⟨c, g1, -, g3, g4, g5, -⟩ := A'
    refine ⟨c, g1, ?_, by rw [hl2]; exact ld⟩
    apply Array.ext
    · rw [g3, z5.1]; simp; omega
    · intro i hi1 hi2
      have := g5 i hi1
      have hi3 : i < (vd.take D ++ (vs.drop S).take N ++ vd.drop (D + N)).length := by rw [hl2]; rw [g3, z5.1] at hi1; exact hi1
      simp only [Array.getElem?_eq_getElem hi1, List.getD_eq_getElem?_getD, List.getElem?_eq_getElem hi3, Option.getD_some, Option.some.injEq] at this
      simpa using this
  obtain ⟨s₂, o, h1, r⟩ := k h' kp A2 p e s vm0 k0 m args below meth c T' L cs' sl' Bd X' hc' hs' e' N'
    ⟨i1, Nat.le_trans i2 kp.1, i3, i4.trans (CHr.keep kp sk i4.1), fun x hx => ⟨(i5 x hx).1, Nat.lt_of_lt_of_le (i5 x hx).2.1 kp.1, Safe.keep kp sk i4.1 (i5 x hx).2.2⟩, ⟨Nat.le_trans i6.1 kp.1, fun x cc q => kp.2.1 x cc (i6.2 x cc q) fun hm => by
      have h1 := (Array.getElem?_eq_some_iff.mp q).1
      cases List.mem_singleton.mp hm
      exact Nat.lt_irrefl _ (Nat.lt_of_lt_of_le h1 hn)⟩⟩
  exact ⟨s₂, o, st _ h1, r⟩
/-! calls of private methods, of superclass methods, of a method that a subclass overrides -/
theorem o_6e {Z : State} {a0 : Array Value} {y : MethodName} {b : ByteArray} {mx : Nat} {ret : Option FieldType} (w : (Jvm.Cond.instanceMethod y).before a0 Z = true) (wc : (Jvm.Cond.code y b mx ret).before a0 Z = true) : (Jvm.Cond.declares y).before a0 Z = true := by
  obtain ⟨mk, methM, hnamed, hmethM, hstM, habM⟩ := Cond.instanceMethod_spec w
  obtain ⟨m2, cM, q1, -, -, -, -, -, -, hsig⟩ := Cond.code_spec hnamed wc
  cases hmethM.symm.trans q1
  simp [Cond.before, Cond.holds, Cond.value, hnamed, hmethM, hstM, hsig]
theorem o_9u {s : State} {a0 : Array Value} {C : String} {y y' : MethodName} (w : (Jvm.Cond.selects C y' y').before a0 s = true) (hy : y'.cls = y.cls) : NotFace s y := fun r0 h0 => by
  obtain ⟨c2, r2, m2, q1, q2, q3, q4, kP, hkP, hkPi⟩ := Cond.selects_spec w
  have e1 := findClass_of_methodNamed h0
  have e2 := findClass_of_methodNamed q3
  rw [hy, e1] at e2
  have e3 := Option.some.inj e2
  exact ⟨kP, by rw [e3]; exact hkP, hkPi⟩
section Calls2
variable {K : o_b} {M M' : o_7} {Q Q' : o_0g} {pc pc' : Nat} {Ls : List Slot} {St rest : List Value} {sf sf' : List Addr} {h : Heap} {cs sl : Nat} {a0 : Array Value}
theorem o_9c {index : Nat} {a : Addr} {C C' : String} {y y' : MethodName} {argsL : List Value} (hd : decode M.b pc = .ok (.invokevirtual index, 3)) (hp : pc + 3 = pc') (w1 : (Jvm.Cond.methodLink M.y.cls index y).before a0 K.Z = true) (w2 : (Jvm.Cond.declares y).before a0 K.Z = true) (wn : (Jvm.Cond.selects C' y' y').before a0 K.Z = true) (hyy : y'.cls = y.cls) (w5 : (Jvm.Cond.selects C y M'.y).before a0 K.Z = true) (w6 : (Jvm.Cond.instanceMethod M'.y).before a0 K.Z = true) (w3 : (Jvm.Cond.initialized M'.y.cls).before a0 K.Z = true) (w4 : (Jvm.Cond.code M'.y M'.b M'.mx M'.ret).before a0 K.Z = true)
    (hy : y.cls ≠ "java/lang/invoke/MethodHandle" ∧ y.cls ≠ "java/lang/invoke/VarHandle") (hsz : Ls.length = M.mx) (hlen : ∀ sig, parseMethodDescriptor y.desc = some sig → argsL.length = sig.parameters.length) (hst : St = argsL.reverse ++ .ref a :: rest)
    (hf : Nat.ble (M'.R.frames + 1) M.R.frames = true) (hl : Nat.ble ((rest.map fun v => v.category).sum + (M'.mx + 11) + M'.R.locals) M.R.locals = true) (hc : Nat.ble (cs + M'.R.cells) M.R.cells = true) (hs : Nat.ble (sl + M'.R.slots) M.R.slots = true)
    (E : Exa K.Z h a C) (hM : o_9 K M' (.ref a :: argsL).toArray sf' h Q') (hsf : ∀ x ∈ sf', x ∈ sf) (k : ∀ v h' xs, Q' v h' xs → o_3 K M Q pc' Ls (v.toList ++ rest) (xs ++ sf) h' (cs + M'.R.cells) (sl + M'.R.slots)) : o_3 K M Q pc Ls St sf h cs sl := by
  subst hst hp
  intro p e s vm0 k0 m args below meth c T locs cs' sl' B X hc' hs' eT N I
  have q1 := Nat.le_of_ble_eq_true hf
  have q2 := Nat.le_of_ble_eq_true hl
  have q3 := Nat.le_of_ble_eq_true hc
  have q4 := Nat.le_of_ble_eq_true hs
  obtain ⟨cB, kB, r1, r2, r3⟩ := isOf (T := T) B.2.2.2.2.2.2.2.1 eT E
  obtain ⟨v, vm₁, B', -, X', hS, hg, P, st⟩ := X.virtualBackS B.1 (y := y) (z := M'.y) B.2.2.2.1 (mv B.2.2.2.2.2.2.2.1 w1) (mv B.2.2.2.2.2.2.2.1 w2) (o_9u (a0 := #[]) (mv B.2.2.2.2.2.2.2.1 wn) hyy) (mv B.2.2.2.2.2.2.2.1 w5) (mv B.2.2.2.2.2.2.2.1 w6) hy
    (o_47 (W := (rest.map fun v => v.category).sum) hM hsf B.2.2.2.2.2.2.2.1 B.2.2.2.2.2.2.2.2 I w4 w3 q1 q2) r1 r3 (g := mkF m pc Ls.toArray (argsL.reverse ++ .ref a :: rest)) rfl (by rw [B.2.2.1, ← hsz]; simp) (Steps.refl _) (argsL := argsL) (rest := rest) hlen rfl (by show 2 * 0 + _ ≤ _; omega) (hb B.2.1 hd)
    (fun vm₁ _ => ⟨rfl, eT, by show cs' + _ ≤ _; omega, by show sl' + _ ≤ _; omega⟩)
  exact o_3p k B hc' hs' eT N I X' hS hg P st
theorem o_7z {index count : Nat} {a : Addr} {C : String} {y : MethodName} {argsL : List Value} (hd : decode M.b pc = .ok (.invokeinterface index count, 5)) (hp : pc + 5 = pc') (w1 : (Jvm.Cond.methodLink M.y.cls index y).before a0 K.Z = true) (w2 : (Jvm.Cond.declares y).before a0 K.Z = true) (wf : (Jvm.Cond.interfaceMethod y.cls y.cls y.name y.desc).before a0 K.Z = true) (hwf : ((Jvm.Cond.interfaceMethod y.cls y.cls y.name y.desc).onTables && (Jvm.Cond.interfaceMethod y.cls y.cls y.name y.desc).keepsFace) = true) (w5 : (Jvm.Cond.selects C y M'.y).before a0 K.Z = true) (w6 : (Jvm.Cond.instanceMethod M'.y).before a0 K.Z = true) (w7 : (Jvm.Cond.publicMethod M'.y).before a0 K.Z = true) (w8 : (Jvm.Cond.unhidden C y.name y.desc).before a0 K.Z = true) (w9 : (Jvm.Cond.castable C y.cls).before a0 K.Z = true) (w3 : (Jvm.Cond.initialized M'.y.cls).before a0 K.Z = true) (w4 : (Jvm.Cond.code M'.y M'.b M'.mx M'.ret).before a0 K.Z = true)
    (hy : y.cls ≠ "java/lang/invoke/MethodHandle" ∧ y.cls ≠ "java/lang/invoke/VarHandle") (hsz : Ls.length = M.mx) (hlen : ∀ sig, parseMethodDescriptor y.desc = some sig → argsL.length = sig.parameters.length) (hst : St = argsL.reverse ++ .ref a :: rest)
    (hf : Nat.ble (M'.R.frames + 1) M.R.frames = true) (hl : Nat.ble ((rest.map fun v => v.category).sum + (M'.mx + 11) + M'.R.locals) M.R.locals = true) (hc : Nat.ble (cs + M'.R.cells) M.R.cells = true) (hs : Nat.ble (sl + M'.R.slots) M.R.slots = true)
    (E : Exa K.Z h a C) (hM : o_9 K M' (.ref a :: argsL).toArray sf' h Q') (hsf : ∀ x ∈ sf', x ∈ sf) (k : ∀ v h' xs, Q' v h' xs → o_3 K M Q pc' Ls (v.toList ++ rest) (xs ++ sf) h' (cs + M'.R.cells) (sl + M'.R.slots)) : o_3 K M Q pc Ls St sf h cs sl := by
  subst hst hp
  intro p e s vm0 k0 m args below meth c T locs cs' sl' B X hc' hs' eT N I
  have q1 := Nat.le_of_ble_eq_true hf
  have q2 := Nat.le_of_ble_eq_true hl
  have q3 := Nat.le_of_ble_eq_true hc
  have q4 := Nat.le_of_ble_eq_true hs
  obtain ⟨cB, kB, r1, r2, r3⟩ := isOf (T := T) B.2.2.2.2.2.2.2.1 eT E
  have hZ := B.2.2.2.2.2.2.2.1
  obtain ⟨v, vm₁, B', -, X', hS, hg, P, st⟩ := X.interfaceBackS B.1 (xi := y) (y := M'.y) B.2.2.2.1 (mv hZ w1) (mv hZ w2) (mv hZ wf hwf) (mv hZ w5) (mv hZ w6) (mv hZ w7) (mv hZ w8) (mv hZ w9) hy
    (o_47 (W := (rest.map fun v => v.category).sum) hM hsf hZ B.2.2.2.2.2.2.2.2 I w4 w3 q1 q2) r1 r2 r3 (g := mkF m pc Ls.toArray (argsL.reverse ++ .ref a :: rest)) rfl (by rw [B.2.2.1, ← hsz]; simp) (Steps.refl _) (argsL := argsL) (rest := rest) hlen rfl (by show 2 * 0 + _ ≤ _; omega) (hb B.2.1 hd)
    (fun vm₁ _ => ⟨rfl, eT, by show cs' + _ ≤ _; omega, by show sl' + _ ≤ _; omega⟩)
  exact o_3p k B hc' hs' eT N I X' hS hg P st
end Calls2
theorem o_9p {K : o_b} {M M' : o_7} {Q : o_0g} {pc pc' : Nat} {Ls : List Slot} {rest : List Value} {sf sf' : List Addr} {h : Heap} {cs sl : Nat} {a0 : Array Value} {index : Nat} {a : Addr} {C C' : String} {y y' : MethodName} {q' : Value → Heap → List Addr → Prop} (hd : decode M.b pc = .ok (.invokevirtual index, 3)) (hp : pc + 3 = pc') (w1 : (Jvm.Cond.methodLink M.y.cls index y).before a0 K.Z = true) (w2 : (Jvm.Cond.declares y).before a0 K.Z = true) (wn : (Jvm.Cond.selects C' y' y').before a0 K.Z = true) (hyy : y'.cls = y.cls) (w5 : (Jvm.Cond.selects C y M'.y).before a0 K.Z = true) (w6 : (Jvm.Cond.instanceMethod M'.y).before a0 K.Z = true) (w3 : (Jvm.Cond.initialized M'.y.cls).before a0 K.Z = true) (w4 : (Jvm.Cond.code M'.y M'.b M'.mx M'.ret).before a0 K.Z = true) (hy : y.cls ≠ "java/lang/invoke/MethodHandle" ∧ y.cls ≠ "java/lang/invoke/VarHandle") (hsz : Ls.length = M.mx) (hlen : ∀ sig, parseMethodDescriptor y.desc = some sig → 0 = sig.parameters.length)
    (hf : Nat.ble (M'.R.frames + 1) M.R.frames = true) (hl : Nat.ble ((rest.map fun v => v.category).sum + (M'.mx + 11) + M'.R.locals) M.R.locals = true) (hc : Nat.ble (cs + M'.R.cells) M.R.cells = true) (hs : Nat.ble (sl + M'.R.slots) M.R.slots = true) (E : Exa K.Z h a C) (hM : o_9 K M' #[.ref a] sf' h (o_c q')) (hsf : ∀ x ∈ sf', x ∈ sf) (k : ∀ w h' xs, q' w h' xs → o_3 K M Q pc' Ls (w :: rest) (xs ++ sf) h' (cs + M'.R.cells) (sl + M'.R.slots)) :
    o_3 K M Q pc Ls (.ref a :: rest) sf h cs sl := o_9c (argsL := []) hd hp w1 w2 wn hyy w5 w6 w3 w4 hy hsz hlen rfl hf hl hc hs E hM hsf (fun v h' xs ⟨w, e, q⟩ => by subst e; exact k w h' xs q)
theorem o_5h {K : o_b} {M M' : o_7} {Q : o_0g} {pc pc' : Nat} {Ls : List Slot} {rest : List Value} {sf sf' : List Addr} {h : Heap} {cs sl : Nat} {a0 : Array Value} {index : Nat} {a : Addr} {C C' : String} {y y' : MethodName} {v0 : Value} {q' : Value → Heap → List Addr → Prop} (hd : decode M.b pc = .ok (.invokevirtual index, 3)) (hp : pc + 3 = pc') (w1 : (Jvm.Cond.methodLink M.y.cls index y).before a0 K.Z = true) (w2 : (Jvm.Cond.declares y).before a0 K.Z = true) (wn : (Jvm.Cond.selects C' y' y').before a0 K.Z = true) (hyy : y'.cls = y.cls) (w5 : (Jvm.Cond.selects C y M'.y).before a0 K.Z = true) (w6 : (Jvm.Cond.instanceMethod M'.y).before a0 K.Z = true) (w3 : (Jvm.Cond.initialized M'.y.cls).before a0 K.Z = true) (w4 : (Jvm.Cond.code M'.y M'.b M'.mx M'.ret).before a0 K.Z = true) (hy : y.cls ≠ "java/lang/invoke/MethodHandle" ∧ y.cls ≠ "java/lang/invoke/VarHandle") (hsz : Ls.length = M.mx) (hlen : ∀ sig, parseMethodDescriptor y.desc = some sig → 1 = sig.parameters.length)
    (hf : Nat.ble (M'.R.frames + 1) M.R.frames = true) (hl : Nat.ble ((rest.map fun v => v.category).sum + (M'.mx + 11) + M'.R.locals) M.R.locals = true) (hc : Nat.ble (cs + M'.R.cells) M.R.cells = true) (hs : Nat.ble (sl + M'.R.slots) M.R.slots = true) (E : Exa K.Z h a C) (hM : o_9 K M' #[.ref a, v0] sf' h (o_c q')) (hsf : ∀ x ∈ sf', x ∈ sf) (k : ∀ w h' xs, q' w h' xs → o_3 K M Q pc' Ls (w :: rest) (xs ++ sf) h' (cs + M'.R.cells) (sl + M'.R.slots)) :
    o_3 K M Q pc Ls (v0 :: .ref a :: rest) sf h cs sl := o_9c (argsL := [v0]) hd hp w1 w2 wn hyy w5 w6 w3 w4 hy hsz hlen rfl hf hl hc hs E hM hsf (fun v h' xs ⟨w, e, q⟩ => by subst e; exact k w h' xs q)
theorem o_2y {K : o_b} {M M' : o_7} {Q : o_0g} {pc pc' : Nat} {Ls : List Slot} {rest : List Value} {sf sf' : List Addr} {h : Heap} {cs sl : Nat} {a0 : Array Value} {index : Nat} {a : Addr} {C : String} {count : Nat} {y : MethodName} {q' : Value → Heap → List Addr → Prop} (hd : decode M.b pc = .ok (.invokeinterface index count, 5)) (hp : pc + 5 = pc') (w1 : (Jvm.Cond.methodLink M.y.cls index y).before a0 K.Z = true) (w2 : (Jvm.Cond.declares y).before a0 K.Z = true) (wf : (Jvm.Cond.interfaceMethod y.cls y.cls y.name y.desc).before a0 K.Z = true) (hwf : ((Jvm.Cond.interfaceMethod y.cls y.cls y.name y.desc).onTables && (Jvm.Cond.interfaceMethod y.cls y.cls y.name y.desc).keepsFace) = true) (w5 : (Jvm.Cond.selects C y M'.y).before a0 K.Z = true) (w6 : (Jvm.Cond.instanceMethod M'.y).before a0 K.Z = true) (w7 : (Jvm.Cond.publicMethod M'.y).before a0 K.Z = true) (w8 : (Jvm.Cond.unhidden C y.name y.desc).before a0 K.Z = true) (w9 : (Jvm.Cond.castable C y.cls).before a0 K.Z = true) (w3 : (Jvm.Cond.initialized M'.y.cls).before a0 K.Z = true) (w4 : (Jvm.Cond.code M'.y M'.b M'.mx M'.ret).before a0 K.Z = true) (hy : y.cls ≠ "java/lang/invoke/MethodHandle" ∧ y.cls ≠ "java/lang/invoke/VarHandle") (hsz : Ls.length = M.mx) (hlen : ∀ sig, parseMethodDescriptor y.desc = some sig → 0 = sig.parameters.length)
    (hf : Nat.ble (M'.R.frames + 1) M.R.frames = true) (hl : Nat.ble ((rest.map fun v => v.category).sum + (M'.mx + 11) + M'.R.locals) M.R.locals = true) (hc : Nat.ble (cs + M'.R.cells) M.R.cells = true) (hs : Nat.ble (sl + M'.R.slots) M.R.slots = true) (E : Exa K.Z h a C) (hM : o_9 K M' #[.ref a] sf' h (o_c q')) (hsf : ∀ x ∈ sf', x ∈ sf) (k : ∀ w h' xs, q' w h' xs → o_3 K M Q pc' Ls (w :: rest) (xs ++ sf) h' (cs + M'.R.cells) (sl + M'.R.slots)) :
    o_3 K M Q pc Ls (.ref a :: rest) sf h cs sl := o_7z (argsL := []) hd hp w1 w2 wf hwf w5 w6 w7 w8 w9 w3 w4 hy hsz hlen rfl hf hl hc hs E hM hsf (fun v h' xs ⟨w, e, q⟩ => by subst e; exact k w h' xs q)
theorem o_0u {K : o_b} {M M' : o_7} {Q : o_0g} {pc pc' : Nat} {Ls : List Slot} {rest : List Value} {sf sf' : List Addr} {h : Heap} {cs sl : Nat} {a0 : Array Value} {index : Nat} {a : Addr} {C : String} {count : Nat} {y : MethodName} {v0 : Value} {q' : Value → Heap → List Addr → Prop} (hd : decode M.b pc = .ok (.invokeinterface index count, 5)) (hp : pc + 5 = pc') (w1 : (Jvm.Cond.methodLink M.y.cls index y).before a0 K.Z = true) (w2 : (Jvm.Cond.declares y).before a0 K.Z = true) (wf : (Jvm.Cond.interfaceMethod y.cls y.cls y.name y.desc).before a0 K.Z = true) (hwf : ((Jvm.Cond.interfaceMethod y.cls y.cls y.name y.desc).onTables && (Jvm.Cond.interfaceMethod y.cls y.cls y.name y.desc).keepsFace) = true) (w5 : (Jvm.Cond.selects C y M'.y).before a0 K.Z = true) (w6 : (Jvm.Cond.instanceMethod M'.y).before a0 K.Z = true) (w7 : (Jvm.Cond.publicMethod M'.y).before a0 K.Z = true) (w8 : (Jvm.Cond.unhidden C y.name y.desc).before a0 K.Z = true) (w9 : (Jvm.Cond.castable C y.cls).before a0 K.Z = true) (w3 : (Jvm.Cond.initialized M'.y.cls).before a0 K.Z = true) (w4 : (Jvm.Cond.code M'.y M'.b M'.mx M'.ret).before a0 K.Z = true) (hy : y.cls ≠ "java/lang/invoke/MethodHandle" ∧ y.cls ≠ "java/lang/invoke/VarHandle") (hsz : Ls.length = M.mx) (hlen : ∀ sig, parseMethodDescriptor y.desc = some sig → 1 = sig.parameters.length)
    (hf : Nat.ble (M'.R.frames + 1) M.R.frames = true) (hl : Nat.ble ((rest.map fun v => v.category).sum + (M'.mx + 11) + M'.R.locals) M.R.locals = true) (hc : Nat.ble (cs + M'.R.cells) M.R.cells = true) (hs : Nat.ble (sl + M'.R.slots) M.R.slots = true) (E : Exa K.Z h a C) (hM : o_9 K M' #[.ref a, v0] sf' h (o_c q')) (hsf : ∀ x ∈ sf', x ∈ sf) (k : ∀ w h' xs, q' w h' xs → o_3 K M Q pc' Ls (w :: rest) (xs ++ sf) h' (cs + M'.R.cells) (sl + M'.R.slots)) :
    o_3 K M Q pc Ls (v0 :: .ref a :: rest) sf h cs sl := o_7z (argsL := [v0]) hd hp w1 w2 wf hwf w5 w6 w7 w8 w9 w3 w4 hy hsz hlen rfl hf hl hc hs E hM hsf (fun v h' xs ⟨w, e, q⟩ => by subst e; exact k w h' xs q)
theorem o_9q {K : o_b} {M M' : o_7} {Q : o_0g} {pc pc' : Nat} {Ls : List Slot} {rest : List Value} {sf sf' : List Addr} {h : Heap} {cs sl : Nat} {a0 : Array Value} {index : Nat} {a : Addr} {C : String} {count : Nat} {y : MethodName} {v0 v1 : Value} {q' : Value → Heap → List Addr → Prop} (hd : decode M.b pc = .ok (.invokeinterface index count, 5)) (hp : pc + 5 = pc') (w1 : (Jvm.Cond.methodLink M.y.cls index y).before a0 K.Z = true) (w2 : (Jvm.Cond.declares y).before a0 K.Z = true) (wf : (Jvm.Cond.interfaceMethod y.cls y.cls y.name y.desc).before a0 K.Z = true) (hwf : ((Jvm.Cond.interfaceMethod y.cls y.cls y.name y.desc).onTables && (Jvm.Cond.interfaceMethod y.cls y.cls y.name y.desc).keepsFace) = true) (w5 : (Jvm.Cond.selects C y M'.y).before a0 K.Z = true) (w6 : (Jvm.Cond.instanceMethod M'.y).before a0 K.Z = true) (w7 : (Jvm.Cond.publicMethod M'.y).before a0 K.Z = true) (w8 : (Jvm.Cond.unhidden C y.name y.desc).before a0 K.Z = true) (w9 : (Jvm.Cond.castable C y.cls).before a0 K.Z = true) (w3 : (Jvm.Cond.initialized M'.y.cls).before a0 K.Z = true) (w4 : (Jvm.Cond.code M'.y M'.b M'.mx M'.ret).before a0 K.Z = true) (hy : y.cls ≠ "java/lang/invoke/MethodHandle" ∧ y.cls ≠ "java/lang/invoke/VarHandle") (hsz : Ls.length = M.mx) (hlen : ∀ sig, parseMethodDescriptor y.desc = some sig → 2 = sig.parameters.length)
    (hf : Nat.ble (M'.R.frames + 1) M.R.frames = true) (hl : Nat.ble ((rest.map fun v => v.category).sum + (M'.mx + 11) + M'.R.locals) M.R.locals = true) (hc : Nat.ble (cs + M'.R.cells) M.R.cells = true) (hs : Nat.ble (sl + M'.R.slots) M.R.slots = true) (E : Exa K.Z h a C) (hM : o_9 K M' #[.ref a, v0, v1] sf' h (o_c q')) (hsf : ∀ x ∈ sf', x ∈ sf) (k : ∀ w h' xs, q' w h' xs → o_3 K M Q pc' Ls (w :: rest) (xs ++ sf) h' (cs + M'.R.cells) (sl + M'.R.slots)) :
    o_3 K M Q pc Ls (v1 :: v0 :: .ref a :: rest) sf h cs sl := o_7z (argsL := [v0, v1]) hd hp w1 w2 wf hwf w5 w6 w7 w8 w9 w3 w4 hy hsz hlen rfl hf hl hc hs E hM hsf (fun v h' xs ⟨w, e, q⟩ => by subst e; exact k w h' xs q)
theorem d_mmx_0 : decode Bn54 0 = .ok (.iload_n 0, 1) := by decide +kernel
theorem d_mmx_1 : decode Bn54 1 = .ok (.iload_n 1, 1) := by decide +kernel
theorem d_mmx_2 : decode Bn54 2 = .ok (.if_icmp .lt 7, 3) := by decide +kernel
theorem d_mmx_5 : decode Bn54 5 = .ok (.iload_n 0, 1) := by decide +kernel
theorem d_mmx_6 : decode Bn54 6 = .ok (.goto 4, 3) := by decide +kernel
theorem d_mmx_9 : decode Bn54 9 = .ok (.iload_n 1, 1) := by decide +kernel
theorem d_mmx_10 : decode Bn54 10 = .ok (.ireturn, 1) := by decide +kernel
abbrev M_mmx : o_7 := (Yn43, jdk_29_method_65_code, 2, (Option.some FieldType.int), ({ frames := 0, cells := 0, slots := 0, locals := 0 } : Room))
theorem pn_mmx : plainFor (o_7.y M_mmx) = true := Jvm.Free.JP.mathPlain rfl (by decide +kernel)
theorem c_mmx (K : o_b) (a0 : Array Value) (hw : ∀ d ∈ tables_1, d.before a0 K.Z = true) (x y : Int32) (h : Heap) :
    o_9 K M_mmx #[.int x, .int y] [] h (o_c fun w h' _ => ∃ r : Int32, w = .int r ∧ ((x.toInt < y.toInt ∧ r = y) ∨ (y.toInt ≤ x.toInt ∧ r = x)) ∧ h' = h) := by
  refine o_08 (M := M_mmx) pn_mmx rfl (by first | rfl | exact o_5 (by assumption)) (by first | rfl | exact o_5 (by assumption)) ?_
  refine o_2 (pc' := 1) rfl d_mmx_0 rfl ?_
  refine o_2 (pc' := 2) rfl d_mmx_1 rfl ?_
  refine o_1g (pcT := 9) (pcF := 5) d_mmx_2 (by decide) (by decide) rfl (fun q => ?_) (fun q => ?_)
  · rw [Int32.lt_iff_toInt_lt] at q
    refine o_2 (pc' := 10) rfl d_mmx_9 rfl ?_
    refine o_00 rfl d_mmx_10 rfl rfl ?_
    exact ⟨y, rfl, Or.inl ⟨q, rfl⟩, rfl⟩
  · rw [Int32.lt_iff_toInt_lt] at q
    refine o_2 (pc' := 6) rfl d_mmx_5 rfl ?_
    refine o_o (pc' := 10) d_mmx_6 (by decide) (by decide) ?_
    refine o_00 rfl d_mmx_10 rfl rfl ?_
    exact ⟨x, rfl, Or.inr ⟨by omega, rfl⟩, rfl⟩
theorem d_mmn_0 : decode Bn56 0 = .ok (.iload_n 0, 1) := by decide +kernel
theorem d_mmn_1 : decode Bn56 1 = .ok (.iload_n 1, 1) := by decide +kernel
theorem d_mmn_2 : decode Bn56 2 = .ok (.if_icmp .gt 7, 3) := by decide +kernel
theorem d_mmn_5 : decode Bn56 5 = .ok (.iload_n 0, 1) := by decide +kernel
theorem d_mmn_6 : decode Bn56 6 = .ok (.goto 4, 3) := by decide +kernel
theorem d_mmn_9 : decode Bn56 9 = .ok (.iload_n 1, 1) := by decide +kernel
theorem d_mmn_10 : decode Bn56 10 = .ok (.ireturn, 1) := by decide +kernel
abbrev M_mmn : o_7 := (Yn30, jdk_29_method_69_code, 2, (Option.some FieldType.int), ({ frames := 0, cells := 0, slots := 0, locals := 0 } : Room))
theorem pn_mmn : plainFor (o_7.y M_mmn) = true := Jvm.Free.JP.mathPlain rfl (by decide +kernel)
theorem c_mmn (K : o_b) (a0 : Array Value) (hw : ∀ d ∈ tables_1, d.before a0 K.Z = true) (x y : Int32) (h : Heap) :
    o_9 K M_mmn #[.int x, .int y] [] h (o_c fun w h' _ => ∃ r : Int32, w = .int r ∧ ((y.toInt < x.toInt ∧ r = y) ∨ (x.toInt ≤ y.toInt ∧ r = x)) ∧ h' = h) := by
  refine o_08 (M := M_mmn) pn_mmn rfl (by first | rfl | exact o_5 (by assumption)) (by first | rfl | exact o_5 (by assumption)) ?_
  refine o_2 (pc' := 1) rfl d_mmn_0 rfl ?_
  refine o_2 (pc' := 2) rfl d_mmn_1 rfl ?_
  refine o_4s (pcT := 9) (pcF := 5) d_mmn_2 (by decide) (by decide) rfl (fun q => ?_) (fun q => ?_)
  · rw [Int32.lt_iff_toInt_lt] at q
    refine o_2 (pc' := 10) rfl d_mmn_9 rfl ?_
    refine o_00 rfl d_mmn_10 rfl rfl ?_
    exact ⟨y, rfl, Or.inl ⟨q, rfl⟩, rfl⟩
  · rw [Int32.lt_iff_toInt_lt] at q
    refine o_2 (pc' := 6) rfl d_mmn_5 rfl ?_
    refine o_o (pc' := 10) d_mmn_6 (by decide) (by decide) ?_
    refine o_00 rfl d_mmn_10 rfl rfl ?_
    exact ⟨x, rfl, Or.inr ⟨by omega, rfl⟩, rfl⟩
theorem d_pci_0 : decode Bn62 0 = .ok (.iload_n 0, 1) := by decide +kernel
theorem d_pci_1 : decode Bn62 1 = .ok (.ifCond .lt 8, 3) := by decide +kernel
theorem d_pci_4 : decode Bn62 4 = .ok (.iload_n 0, 1) := by decide +kernel
theorem d_pci_5 : decode Bn62 5 = .ok (.iload_n 1, 1) := by decide +kernel
theorem d_pci_6 : decode Bn62 6 = .ok (.if_icmp .lt 10, 3) := by decide +kernel
theorem d_pci_16 : decode Bn62 16 = .ok (.iload_n 0, 1) := by decide +kernel
theorem d_pci_17 : decode Bn62 17 = .ok (.ireturn, 1) := by decide +kernel
abbrev M_pci : o_7 := (Yn49, jdk_41_method_11_code, 3, (Option.some FieldType.int), ({ frames := 0, cells := 0, slots := 0, locals := 0 } : Room))
theorem pn_pci : plainFor (o_7.y M_pci) = true := plainFor_of_name (by first | (simp [plainName, overriddenIn]; done) | decide +kernel)
theorem c_pci (K : o_b) (a0 : Array Value) (hw : ∀ d ∈ tables_1, d.before a0 K.Z = true) (rf : Value) (hrf : rf.isRef = true) (i n : Int32) (h : Heap) (h0 : 0 ≤ i.toInt) (h1 : i.toInt < n.toInt) :
    o_9 K M_pci #[.int i, .int n, rf] [] h (o_c fun w h' _ => w = .int i ∧ h' = h) := by
  have z0 : (0 : Int32).toInt = 0 := rfl
  rcases ref_cases hrf with rfl | ⟨r, rfl⟩
  all_goals
    refine o_1d (M := M_pci) pn_pci rfl (by first | rfl | exact o_5 (by assumption)) (by first | rfl | exact o_5 (by assumption)) (by first | rfl | exact o_5 (by assumption)) ?_
    refine o_2 (pc' := 1) rfl d_pci_0 rfl ?_
    refine o_5f (pcT := 9) (pcF := 4) d_pci_1 (by decide) (by decide) rfl (fun q => ?_) (fun q => ?_)
    · rw [Int32.lt_iff_toInt_lt] at q; omega
    · skip
      refine o_2 (pc' := 5) rfl d_pci_4 rfl ?_
      refine o_2 (pc' := 6) rfl d_pci_5 rfl ?_
      refine o_1g (pcT := 16) (pcF := 9) d_pci_6 (by decide) (by decide) rfl (fun q2 => ?_) (fun q2 => ?_)
      · skip
        refine o_2 (pc' := 17) rfl d_pci_16 rfl ?_
        refine o_00 rfl d_pci_17 rfl rfl ?_
        exact ⟨rfl, rfl⟩
      · rw [Int32.lt_iff_toInt_lt] at q2; omega
/-! arrays of references, switches, floats' constants, instanceof that says no -/
section Refs
variable {K : o_b} {M : o_7} {Q : o_0g} {pc pc' : Nat} {Ls : List Slot} {St : List Value} {sf : List Addr} {h h' : Heap} {cs sl : Nat} {a0 : Array Value} {Z : State} {a b : Addr} {C : String} {vs : List Value}
/-- the array at a, made for objects of class C, holds just vs -/
def o_02 (Z : State) (h : Heap) (a : Addr) (C : String) (vs : List Value) : Prop := ∃ c : Cell, Arr Z h a c (.object C) ∧ Ovr Z c.cls C ∧ c.slots = vs.toArray ∧ vs.length < 2 ^ 31 ∧ Exa Z h a ("[" ++ (FieldType.object C).toString)
theorem o_02.ary (F : o_02 Z h a C vs) : o_g Z h a (.object C) vs := by obtain ⟨c, A, -, r1, r2, -⟩ := F; exact ⟨c, A, r1, r2⟩
theorem o_02.exa {ad : String} (F : o_02 Z h a C vs) (had : "[" ++ (FieldType.object C).toString = ad) : Exa Z h a ad := by obtain ⟨c, A, -, r1, r2, r3⟩ := F; exact had ▸ r3
theorem o_02.ext (F : o_02 Z h a C vs) (E : Ext h h') : o_02 Z h' a C vs := by obtain ⟨c, A, r0, r1, r2, r3⟩ := F; exact ⟨c, A.ext E, r0, r1, r2, r3.ext E⟩
theorem o_02.lt (F : o_02 Z h a C vs) : a < h.size := F.ary.lt
theorem o_02.keep {ws : List Addr} (F : o_02 Z h a C vs) (k : Keep h h' ws) (q : a ∉ ws) : o_02 Z h' a C vs := by obtain ⟨c, A, r0, r1, r2, r3⟩ := F; exact ⟨c, ⟨k.2.1 a c A.1 q, A.2⟩, r0, r1, r2, r3.keep k⟩
theorem o_02.other {i : Nat} {v : Value} (F : o_02 Z h b C vs) (W : Wr h h' a i v) (q : b ≠ a) : o_02 Z h' b C vs := by obtain ⟨c, A, r0, r1, r2, r3⟩ := F; exact ⟨c, A.other W q, r0, r1, r2, r3.wr W⟩
theorem o_02.same {i : Nat} {v : Value} (F : o_02 Z h a C vs) (W : Wr h h' a i v) : o_02 Z h' a C (vs.set i v) := by
  obtain ⟨c, A, O, r1, r2, r3⟩ := F
  refine ⟨c.setSlot i v, A.same W, O, ?_, by simpa using r2, r3.wr W⟩
  simp [Cell.setSlot, r1]
theorem o_2c {i : Nat} {j : Int32} {y : Addr} (hp : pc + 1 = pc') (hd : decode M.b pc = .ok (.aastore, 1)) (F : o_02 K.Z h a C vs) (hj : j.toInt = i) (hi : i < vs.length) (I : Ins K.Z h y C true) (ha : a ∈ sf) (k : ∀ h', Keep h h' [a] → o_02 K.Z h' a C (vs.set i (.ref y)) → o_3 K M Q pc' Ls St sf h' cs sl) : o_3 K M Q pc Ls (.ref y :: .int j :: .ref a :: St) sf h cs sl := by
  subst hp
  have F' := F
  obtain ⟨cl, A, O, r1, r2, -⟩ := F
  have hsz : cl.slots.size = vs.length := by rw [r1]; simp
  obtain ⟨q1, q2⟩ := o_4x (n := cl.slots.size) hj (by rw [hsz]; exact hi)
  refine o_56 ha (i := j.toNatClampNeg) (fun h' W => k h' (Keep.of_wr W) (by rw [← q2]; exact F'.same W)) ?_
  exact fun p e s m args below meth c T locs cs' sl' B X eT => stR X B.1 B.2.2.2.2.2.2.2.1 eT A (j := j) q1 rfl (Sto.of A O I) (g := mkF m pc Ls.toArray (.ref y :: .int j :: .ref a :: St)) rfl rfl (hb B.2.1 hd)
theorem o_37 {index : Nat} {n : Int32} {N cap : Nat} (hp : pc + 3 = pc') (hd : decode M.b pc = .ok (.anewarray index, 3)) (w1 : (Jvm.Cond.classLink M.y.cls index C).before a0 K.Z = true) (w2 : (Jvm.Cond.arrayOver (.object C)).before a0 K.Z = true) (hn : n.toInt = N) (hcap : N ≤ cap) (hb' : Nat.ble (cap * 8) 536870912 = true) (hc : Nat.ble (cs + 1) M.R.cells = true) (hs : Nat.ble (sl + cap) M.R.slots = true)
    (k : ∀ (a : Addr) (h' : Heap), @Eq Nat a h.size → Ext h h' → o_02 K.Z h' a C (List.replicate N .null) → o_3 K M Q pc' Ls (.ref a :: St) (a :: sf) h' (cs + 1) (sl + cap)) : o_3 K M Q pc Ls (.int n :: St) sf h cs sl := by
  subst hp
  have hN : n.toNatClampNeg = N := by
    have : n.toNatClampNeg = n.toInt.toNat := rfl
    rw [this, hn]; rfl
  have h0 : ¬ n < 0 := fun z => by
    rw [Int32.lt_iff_toInt_lt, hn] at z
    have : (0 : Int32).toInt = 0 := rfl
    omega
  refine o_4z (P := fun h' => o_02 K.Z h' h.size C (List.replicate N .null)) (Nat.le_of_ble_eq_true hc) (Nat.le_of_ble_eq_true hs) (fun h' E P => k _ h' rfl E P) ?_
  intro p e s m args below meth c T locs cs' sl' B X hc' hs' eT
  obtain ⟨T', h', cA, X', e', E, A, EA, O, st⟩ := newRE X B.1 B.2.2.2.2.2.2.2.1 B.2.2.2.1 w1 w2 eT (g := mkF m pc Ls.toArray (.int n :: St)) rfl (hb B.2.1 hd) rfl h0 (cap := cap) (by omega) (Nat.le_of_ble_eq_true hb') hc' hs' rfl
  have hlt := (back32 h0).2
  exact ⟨T', h', X', e', E, A.lt, ⟨_, A, O, by simp [newA, hN, defaultValue], by rw [List.length_replicate, ← hN]; exact hlt, EA⟩, st⟩
theorem o_5r {dflt low high : Int} {offs : Array Int} {len : Nat} {o : Int} {x : Int32} (hd : decode M.b pc = .ok (.tableswitch dflt low high offs, len)) (hin : ¬ (x.toInt < low ∨ x.toInt > high)) (hoff : offs[(x.toInt - low).toNat]? = some o) (ho : 0 ≤ (pc : Int) + o) (hp : ((pc : Int) + o).toNat = pc') (k : o_3 K M Q pc' Ls St sf h cs sl) : o_3 K M Q pc Ls (.int x :: St) sf h cs sl :=
  o_e k fun p e s m args below meth c T locs cs' sl' B X eT t q => XS.tswIn X.here B.1 rfl (pc0 := pc) rfl (hb B.2.1 hd) rfl hin hoff ho hp q
theorem o_91 {dflt low high : Int} {offs : Array Int} {len : Nat} {x : Int32} (hd : decode M.b pc = .ok (.tableswitch dflt low high offs, len)) (hout : x.toInt < low ∨ x.toInt > high) (ho : 0 ≤ (pc : Int) + dflt) (hp : ((pc : Int) + dflt).toNat = pc') (k : o_3 K M Q pc' Ls St sf h cs sl) : o_3 K M Q pc Ls (.int x :: St) sf h cs sl :=
  o_e k fun p e s m args below meth c T locs cs' sl' B X eT t q => XS.tswOut X.here B.1 rfl (pc0 := pc) rfl (hb B.2.1 hd) rfl hout ho hp q
theorem o_9d {index : Nat} {v : UInt32} (hp : pc + 2 = pc') (hd : decode M.b pc = .ok (.ldc index, 2)) (w : (Jvm.Cond.constantFloat M.y.cls index v).before a0 K.Z = true) (k : o_3 K M Q pc' Ls (.float v :: St) sf h cs sl) : o_3 K M Q pc Ls St sf h cs sl :=
  o_e k fun p e s m args below meth c T locs cs' sl' B X eT t q => X.ldcFloatC B.1 B.2.2.2.1 (mv B.2.2.2.2.2.2.2.1 w) (g := mkF m pc Ls.toArray St) rfl (hb B.2.1 hd) t (by subst hp; exact q)
theorem o_6i {index : Nat} {D : String} (hp : pc + 3 = pc') (hd : decode M.b pc = .ok (.instanceof index, 3)) (w : (Jvm.Cond.classLink M.y.cls index D).before a0 K.Z = true) (E : Exa K.Z h a C) (F : ∃ c t, K.Z.vm.findClass C = some c ∧ K.Z.vm.findClass D = some t ∧ K.Z.vm.assignable c t = false) (k : o_3 K M Q pc' Ls (.int 0 :: St) sf h cs sl) : o_3 K M Q pc Ls (.ref a :: St) sf h cs sl := by
  subst hp
  exact o_32 k fun p e s m args below meth c T locs cs' sl' B X eT hE => instNo X B.1 B.2.2.2.2.2.2.2.1 B.2.2.2.1 w eT E F (g := mkF m pc Ls.toArray (.ref a :: St)) rfl rfl (hb B.2.1 hd)
end Refs
theorem o_4p {K : o_b} {M : o_7} {Q : o_0g} {pc pc' : Nat} {Ls : List Slot} {St : List Value} {sf : List Addr} {h : Heap} {cs sl : Nat} {a0 : Array Value} {aty : ArrayType} {ad : String} {n : Int32} {N cap : Nat} (had : "[" ++ (newarray.typeOf aty).toString = ad) (hp : pc + 2 = pc') (hd : decode M.b pc = .ok (.newarray aty, 2)) (w : (Jvm.Cond.arrayClass (newarray.typeOf aty)).before a0 K.Z = true) (hn : n.toInt = N) (hcap : N ≤ cap) (hb' : Nat.ble (cap * 8) 536870912 = true) (hc : Nat.ble (cs + 1) M.R.cells = true) (hs : Nat.ble (sl + cap) M.R.slots = true)
    (k : ∀ (a : Addr) (h' : Heap), @Eq Nat a h.size → Ext h h' → Exa K.Z h' a ad → o_g K.Z h' a (newarray.typeOf aty) (List.replicate N (defaultValue (newarray.typeOf aty))) → o_3 K M Q pc' Ls (.ref a :: St) (a :: sf) h' (cs + 1) (sl + cap)) : o_3 K M Q pc Ls (.int n :: St) sf h cs sl := by
  subst hp
  have hN : n.toNatClampNeg = N := by
    have : n.toNatClampNeg = n.toInt.toNat := rfl
    rw [this, hn]; rfl
  have h0 : ¬ n < 0 := fun z => by
    rw [Int32.lt_iff_toInt_lt, hn] at z
    have : (0 : Int32).toInt = 0 := rfl
    omega
  refine o_4z (P := fun h' => Exa K.Z h' h.size ad ∧ o_g K.Z h' h.size (newarray.typeOf aty) (List.replicate N (defaultValue (newarray.typeOf aty)))) (Nat.le_of_ble_eq_true hc) (Nat.le_of_ble_eq_true hs) (fun h' E P => k _ h' rfl E P.1 P.2) ?_
  intro p e s m args below meth c T locs cs' sl' B X hc' hs' eT
  obtain ⟨T', h', cA, X', e', E, A, EA, st⟩ := newPE X B.1 B.2.2.2.2.2.2.2.1 w eT (g := mkF m pc Ls.toArray (.int n :: St)) rfl (hb B.2.1 hd) rfl h0 (cap := cap) (by omega) (Nat.le_of_ble_eq_true hb') hc' hs' had
  have hlt := (back32 h0).2
  exact ⟨T', h', X', e', E, A.lt, ⟨EA, _, A, by simp [newA, hN], by rw [List.length_replicate, ← hN]; exact hlt⟩, st⟩
theorem d_cen_0 : decode Bn63 0 = .ok (.iload_n 0, 1) := by decide +kernel
theorem d_cen_1 : decode Bn63 1 = .ok (.sipush 255, 3) := by decide +kernel
theorem d_cen_4 : decode Bn63 4 = .ok (.if_icmp .gt 7, 3) := by decide +kernel
theorem d_cen_7 : decode Bn63 7 = .ok (.iconst 1, 1) := by decide +kernel
theorem d_cen_8 : decode Bn63 8 = .ok (.goto 4, 3) := by decide +kernel
theorem d_cen_11 : decode Bn63 11 = .ok (.iconst 0, 1) := by decide +kernel
theorem d_cen_12 : decode Bn63 12 = .ok (.ireturn, 1) := by decide +kernel
abbrev M_cen : o_7 := (Yn50, jdk_43_method_3_code, 1, (Option.some FieldType.boolean), ({ frames := 0, cells := 0, slots := 0, locals := 0 } : Room))
theorem pn_cen : plainFor (o_7.y M_cen) = true := plainFor_of_name (by first | (simp [plainName, overriddenIn]; done) | decide +kernel)
theorem c_cen (K : o_b) (a0 : Array Value) (hw : ∀ d ∈ tables_1, d.before a0 K.Z = true) (c : Int32) (h : Heap) :
    o_9 K M_cen #[.int c] [] h (o_c fun w h' _ => w = .int (if c.toInt < 256 then 1 else 0) ∧ h' = h) := by
  have z : (255 : Int32).toInt = 255 := rfl
  refine o_x (M := M_cen) pn_cen rfl (by first | rfl | exact o_5 (by assumption)) ?_
  refine o_2 (pc' := 1) rfl d_cen_0 rfl ?_
  refine o_1f (v := (255 : Int32)) (pc' := 4) rfl d_cen_1 rfl ?_
  refine o_4s (pcT := 11) (pcF := 7) d_cen_4 (by decide) (by decide) rfl (fun q => ?_) (fun q => ?_)
  · skip
    refine o_4 (v := (0 : Int32)) (pc' := 12) rfl d_cen_11 rfl ?_
    refine o_y (t := .boolean) rfl (by simp) (by first | exact o_0v | exact o_0w | rfl) d_cen_12 rfl rfl ?_
    rw [Int32.lt_iff_toInt_lt] at q
    exact ⟨by rw [if_neg]; omega, rfl⟩
  · skip
    refine o_4 (v := (1 : Int32)) (pc' := 8) rfl d_cen_7 rfl ?_
    refine o_o (pc' := 12) d_cen_8 (by decide) (by decide) ?_
    refine o_y (t := .boolean) rfl (by simp) (by first | exact o_0v | exact o_0w | rfl) d_cen_12 rfl rfl ?_
    rw [Int32.lt_iff_toInt_lt] at q
    exact ⟨by rw [if_pos]; omega, rfl⟩
theorem d_ltb_0 : decode Bn57 0 = .ok (.iconst 1, 1) := by decide +kernel
theorem d_ltb_1 : decode Bn57 1 = .ok (.newarray .byte, 2) := by decide +kernel
theorem d_ltb_3 : decode Bn57 3 = .ok (.dup, 1) := by decide +kernel
theorem d_ltb_4 : decode Bn57 4 = .ok (.iconst 0, 1) := by decide +kernel
theorem d_ltb_5 : decode Bn57 5 = .ok (.iload_n 0, 1) := by decide +kernel
theorem d_ltb_6 : decode Bn57 6 = .ok (.i2b, 1) := by decide +kernel
theorem d_ltb_7 : decode Bn57 7 = .ok (.bastore, 1) := by decide +kernel
theorem d_ltb_8 : decode Bn57 8 = .ok (.areturn, 1) := by decide +kernel
abbrev M_ltb : o_7 := (Yn51, jdk_43_method_46_code, 1, (Option.some (FieldType.array FieldType.byte)), ({ frames := 0, cells := 1, slots := 1, locals := 0 } : Room))
theorem pn_ltb : plainFor (o_7.y M_ltb) = true := plainFor_of_name (by first | (simp [plainName, overriddenIn]; done) | decide +kernel)
theorem c_ltb (K : o_b) (a0 : Array Value) (hw : ∀ d ∈ tables_1, d.before a0 K.Z = true) (c : Int32) (h : Heap) :
    o_9 K M_ltb #[.int c] [] h (o_c fun w h' _ => ∃ b : Addr, w = .ref b ∧ Ext h h' ∧ h.size ≤ b ∧ o_g K.Z h' b .byte (o_p [o_04 c])) := by
  refine o_x (M := M_ltb) pn_ltb rfl (by first | rfl | exact o_5 (by assumption)) ?_
  refine o_4 (v := (1 : Int32)) (pc' := 1) rfl d_ltb_0 rfl ?_
  refine o_1p (pc' := 3) rfl d_ltb_1 (tw_14 hw) (N := 1) (cap := 1) (by decide) (by decide) rfl rfl rfl ?_
  intro b h1 eb E1 B1
  refine o_0a (pc' := 4) rfl d_ltb_3 (by first | rfl | assumption) ?_
  refine o_4 (v := (0 : Int32)) (pc' := 5) rfl d_ltb_4 rfl ?_
  refine o_2 (pc' := 6) rfl d_ltb_5 rfl ?_
  refine o_4w (pc' := 7) rfl d_ltb_6 ?_
  refine o_59 (pc' := 8) rfl d_ltb_7 B1 (i := 0) (by decide) (by simp) (o_5g c) (by simp) ?_
  intro h2 k2 B2
  refine o_i rfl rfl (by first | rfl | assumption) d_ltb_8 rfl rfl ?_
  exact ⟨b, rfl, o_f E1 k2 (by intro x hx; cases List.mem_singleton.mp hx; omega), by omega, B2⟩
theorem d_sib_0 : decode Bn37 0 = .ok (.aload_n 0, 1) := by decide +kernel
theorem d_sib_1 : decode Bn37 1 = .ok (.invokespecial 1, 3) := by decide +kernel
theorem d_sib_4 : decode Bn37 4 = .ok (.aload_n 0, 1) := by decide +kernel
theorem d_sib_5 : decode Bn37 5 = .ok (.aload_n 1, 1) := by decide +kernel
theorem d_sib_6 : decode Bn37 6 = .ok (.putfield 9, 3) := by decide +kernel
theorem d_sib_9 : decode Bn37 9 = .ok (.aload_n 0, 1) := by decide +kernel
theorem d_sib_10 : decode Bn37 10 = .ok (.iload_n 2, 1) := by decide +kernel
theorem d_sib_11 : decode Bn37 11 = .ok (.putfield 15, 3) := by decide +kernel
theorem d_sib_14 : decode Bn37 14 = .ok (.return_, 1) := by decide +kernel
abbrev M_sib : o_7 := (Yn35, jdk_42_method_151_code, 3, (Option.none : Option FieldType), ({ frames := 1, cells := 0, slots := 0, locals := 12 } : Room))
theorem pn_sib : plainFor (o_7.y M_sib) = true := plainFor_of_name (by first | (simp [plainName, overriddenIn]; done) | decide +kernel)
theorem c_sib (K : o_b) (a0 : Array Value) (hw : ∀ d ∈ tables_1, d.before a0 K.Z = true) (x b : Addr) (cs : List Int32) (h : Heap) (hcs : o_0i cs) (hl : cs.length < 2 ^ 30) (E : Exa K.Z h x o_l) (FV : Fld K.Z h x o_l "value" "[B" .null) (FC : Fld K.Z h x o_l "coder" "B" (.int 0)) (B : o_g K.Z h b .byte (o_p (o_1r cs))) (hxb : b ≠ x) :
    o_9 K M_sib #[.ref x, .ref b, .int (o_1z cs)] [x] h (o_09 fun h' _ => Keep h h' [x] ∧ o_h K.Z h' x cs) := by
  have sne : RoadKit.slotOf K.Z o_l "value" "[B" ≠ RoadKit.slotOf K.Z o_l "coder" "B" := slot_ne (Or.inr (tw_23 hw)) (Or.inr (tw_25 hw)) (by decide) (t := .array .byte) (t' := .byte) (by decide) (by decide)
  refine o_1d (M := M_sib) pn_sib rfl (by first | rfl | exact o_5 (by assumption)) (by first | rfl | exact o_5 (by assumption)) (by first | rfl | exact o_5 (by assumption)) ?_
  refine o_1 (pc' := 1) rfl d_sib_0 rfl (by first | rfl | assumption) ?_
  refine o_2w (pc' := 4) rfl d_sib_1 (tw_19 hw) (tw_20 hw) (tw_21 hw) rfl rfl rfl ?_
  refine o_1 (pc' := 5) rfl d_sib_4 rfl (by first | rfl | assumption) ?_
  refine o_1 (pc' := 6) rfl d_sib_5 rfl (by first | rfl | assumption) ?_
  refine o_06 (pc' := 9) rfl d_sib_6 (tw_22 hw) Via.refl (Or.inr ⟨(tw_23 hw), rfl, rfl⟩) (tw_10 hw) (ty := (.array .byte)) (by decide) rfl rfl FV (by assumption) (by simp) ?_
  intro h1 W1
  have FV1 := FV.same W1
  have FC1 := FC.other W1 (Or.inr (Ne.symm sne))
  have E1 := E.wr W1
  have B1 := B.other W1 hxb
  refine o_1 (pc' := 10) rfl d_sib_9 rfl (by first | rfl | assumption) ?_
  refine o_2 (pc' := 11) rfl d_sib_10 rfl ?_
  refine o_06 (pc' := 14) rfl d_sib_11 (tw_24 hw) Via.refl (Or.inr ⟨(tw_25 hw), rfl, rfl⟩) (tw_10 hw) (ty := .byte) (by decide) (o_43 cs).1 (o_43 cs).2 FC1 E1 (by simp) ?_
  intro h2 W2
  refine o_0b rfl d_sib_14 rfl rfl ?_
  exact ⟨(Keep.of_wr W1).wr W2 (Or.inl (List.mem_singleton.mpr rfl)), E1.wr W2, hcs, hl, b, FV1.other W2 (Or.inr sne), FC1.same W2, B1.other W2 hxb⟩
/-! String.hashCode of a text below 256, of length two at most here; the two fields that it keeps (behind sib.wp's and strops.wp's lemmas, refs.wp) -/
def o_38 (Z : State) (h : Heap) (x : Addr) (n : Int32) : Prop := Fld Z h x o_l "hash" "I" (.int n) ∧ Fld Z h x o_l "hashIsZero" "Z" (.int 0)
theorem o_38.ext {Z : State} {h h' : Heap} {x : Addr} {n : Int32} (F : o_38 Z h x n) (E : Ext h h') : o_38 Z h' x n := ⟨F.1.ext E, F.2.ext E⟩
theorem o_38.keep {Z : State} {h h' : Heap} {x : Addr} {n : Int32} {ws : List Addr} (F : o_38 Z h x n) (k : Keep h h' ws) (q : x ∉ ws) : o_38 Z h' x n := ⟨F.1.keep k q, F.2.keep k q⟩
theorem o_4u {Z : State} {a0 : Array Value} (hw : ∀ d ∈ tables_1, d.before a0 Z = true) : (RoadKit.slotOf Z o_l "hash" "I" ≠ RoadKit.slotOf Z o_l "value" "[B" ∧ RoadKit.slotOf Z o_l "hash" "I" ≠ RoadKit.slotOf Z o_l "coder" "B" ∧ RoadKit.slotOf Z o_l "hash" "I" ≠ RoadKit.slotOf Z o_l "hashIsZero" "Z") ∧ RoadKit.slotOf Z o_l "hashIsZero" "Z" ≠ RoadKit.slotOf Z o_l "value" "[B" ∧ RoadKit.slotOf Z o_l "hashIsZero" "Z" ≠ RoadKit.slotOf Z o_l "coder" "B" := by
  have L1 : Laid Z a0 o_l o_l "hash" "I" := Or.inl (tw_430 hw)
  have L2 : Laid Z a0 o_l o_l "hashIsZero" "Z" := Or.inl (tw_432 hw)
  have L3 : Laid Z a0 o_l o_l "value" "[B" := Or.inr (tw_23 hw)
  have L4 : Laid Z a0 o_l o_l "coder" "B" := Or.inr (tw_25 hw)
  exact ⟨⟨slot_ne L1 L3 (by decide) (t := .int) (t' := .array .byte) (by decide) (by decide), slot_ne L1 L4 (by decide) (t := .int) (t' := .byte) (by decide) (by decide), slot_ne L1 L2 (by decide) (t := .int) (t' := .boolean) (by decide) (by decide)⟩, slot_ne L2 L3 (by decide) (t := .boolean) (t' := .array .byte) (by decide) (by decide), slot_ne L2 L4 (by decide) (t := .boolean) (t' := .byte) (by decide) (by decide)⟩
/-- the hash is written: every text stays -/
theorem o_h.hw {Z : State} {a0 : Array Value} {h h' : Heap} {x y : Addr} {cs : List Int32} {v : Value} (hw : ∀ d ∈ tables_1, d.before a0 Z = true) (F : o_h Z h y cs) (E : Exa Z h x o_l) (W : Wr h h' x (RoadKit.slotOf Z o_l "hash" "I") v) : o_h Z h' y cs := by
  obtain ⟨⟨z1, z2, -⟩, -⟩ := o_4u hw
  obtain ⟨f1, f2, f3, b, f4, f5, f6⟩ := F
  refine ⟨f1.wr W, f2, f3, b, f4.other W (Or.inr (Ne.symm z1)), f5.other W (Or.inr (Ne.symm z2)), f6.other W (fun q => ?_)⟩
  obtain ⟨c, A, -⟩ := f6
  exact ne_arr E (tw_10 hw) A q.symm
/-- a text below 256, of at least one char, with its hash's fields -/
def o_0j (Z : State) (h : Heap) (x : Addr) (cs : List Int32) (n : Int32) : Prop := o_0i cs ∧ o_n cs = true ∧ cs.length < 2 ^ 20 ∧ Exa Z h x o_l ∧ o_38 Z h x n ∧ ∃ b : Addr, Fld Z h x o_l "value" "[B" (.ref b) ∧ Fld Z h x o_l "coder" "B" (.int 0) ∧ Exa Z h b "[B" ∧ o_g Z h b .byte (o_p (cs.map o_04))
theorem o_0j.str {Z : State} {h : Heap} {x : Addr} {cs : List Int32} {n : Int32} (F : o_0j Z h x cs n) : o_h Z h x cs := by
  obtain ⟨f1, f2, f3, f4, f5, b, f6, f7, f8, f9⟩ := F
  exact ⟨f4, f1, by omega, b, f6, by rw [(o_0e f2).2]; exact f7, by rw [(o_0e f2).1]; exact f9⟩
theorem o_0j.ext {Z : State} {h h' : Heap} {x : Addr} {cs : List Int32} {n : Int32} (F : o_0j Z h x cs n) (E : Ext h h') : o_0j Z h' x cs n := by
  obtain ⟨f1, f2, f3, f4, f5, b, f6, f7, f8, f9⟩ := F
  exact ⟨f1, f2, f3, f4.ext E, f5.ext E, b, f6.ext E, f7.ext E, f8.ext E, f9.ext E⟩
theorem c_cp3H (K : o_b) (a0 : Array Value) (hw : ∀ d ∈ tables_1, d.before a0 K.Z = true) (a : Addr) (n : Int32) (cs : List Int32) (h : Heap) (hn : n.toInt = cs.length) (hcap : cs.length ≤ 7) (hcs : o_0i cs) (A : o_g K.Z h a .char (o_p cs)) (hl : o_n cs = true) :
    o_9 K M_cp3 #[.ref a, .int 0, .int n] [] h (o_c fun w h' _ => ∃ b : Addr, w = .ref b ∧ Ext h h' ∧ h.size ≤ b ∧ Exa K.Z h' b "[B" ∧ o_g K.Z h' b .byte (o_p (cs.map o_04))) := by
  refine o_60 (M := M_cp3) pn_cp3 rfl (by first | rfl | exact o_5 (by assumption)) (by first | rfl | exact o_5 (by assumption)) (by first | rfl | exact o_5 (by assumption)) ?_
  refine o_2 (pc' := 1) rfl d_cp3_0 rfl ?_
  refine o_4p (ad := "[B") (by decide) (pc' := 3) rfl d_cp3_1 (tw_14 hw) (N := cs.length) (cap := 7) hn hcap rfl rfl rfl ?_
  intro b h1 eb E1 X1 B1
  have hab : a ≠ b := by show @Ne Nat a b; have : @LT.lt Nat _ _ _ := A.lt; omega
  refine o_2t (pc' := 4) rfl d_cp3_3 (by first | exact One.u | exact One.val rfl | assumption | exact One.val (by assumption)) (by first | rfl | assumption) ?_
  refine o_1 (pc' := 5) rfl d_cp3_4 rfl (by first | rfl | assumption) ?_
  refine o_2 (pc' := 6) rfl d_cp3_5 rfl ?_
  refine o_1 (pc' := 7) rfl d_cp3_6 rfl (by first | rfl | assumption) ?_
  refine o_4 (v := (0 : Int32)) (pc' := 8) rfl d_cp3_7 rfl ?_
  refine o_2 (pc' := 9) rfl d_cp3_8 rfl ?_
  refine o_3z (M' := M_cp5) d_cp3_9 (pc' := 12) rfl (tw_38 hw) (tw_39 hw) (tw_36 hw) (tw_40 hw) (by decide) rfl (o_6 pd_0 rfl) rfl rfl rfl rfl (c_cp5 K a0 hw a b n cs h1 hn hcs (A.ext E1) B1 hab) (by simp) ?_
  rintro w h2 xs ⟨r, rfl, k2, q⟩
  have E2 := o_f E1 k2 (by intro x hx; cases List.mem_singleton.mp hx; omega)
  refine o_1j (pc' := 14) rfl d_cp3_12 (by first | exact One.u | exact One.val rfl | assumption | exact One.val (by assumption)) ?_
  refine o_a (pc' := 16) rfl d_cp3_14 rfl ?_
  refine o_2 (pc' := 17) rfl d_cp3_16 rfl ?_
  refine o_33 (pcT := 57) (pcF := 20) d_cp3_17 (by decide) (by decide) rfl (fun z => ?_) (fun z => ?_)
  · rcases q with ⟨q1, q2, q3⟩ | ⟨q1, i, c, q2, q3, q4⟩
    · skip
      refine o_1 (pc' := 58) rfl d_cp3_57 rfl (by first | rfl | assumption) ?_
      refine o_i rfl rfl (by first | rfl | assumption) d_cp3_58 rfl rfl ?_
      exact ⟨b, rfl, E2, by omega, X1.keep k2, q3⟩
    · rw [hl] at q1; cases q1
  · rcases q with ⟨q1, q2, q3⟩ | ⟨q1, i, c, q2, q3, q4⟩
    · exact absurd q2 z
    · rw [hl] at q1; cases q1
theorem c_si4H (K : o_b) (a0 : Array Value) (hw : ∀ d ∈ tables_1, d.before a0 K.Z = true) (x a : Addr) (n g : Int32) (cs : List Int32) (h : Heap) (hn : n.toInt = cs.length) (hp : 0 < cs.length) (hcap : cs.length ≤ 7) (hcs : o_0i cs) (A : o_g K.Z h a .char (o_p cs)) (E : Exa K.Z h x o_l) (FV : Fld K.Z h x o_l "value" "[B" .null) (FC : Fld K.Z h x o_l "coder" "B" (.int 0)) (FH : o_38 K.Z h x 0) (SC : Sta K.Z K.Z.heap o_l "COMPACT_STRINGS" "Z" (.int g)) (hg : ¬ g = 0) (hl : o_n cs = true) :
    o_9 K M_si4 #[.ref x, .ref a, .int 0, .int n, .null] [x] h (o_09 fun h' _ => Keep h h' [x] ∧ o_0j K.Z h' x cs 0) := by
  obtain ⟨⟨t1, t2, t3⟩, t4, t5⟩ := o_4u hw
  refine o_62 (M := M_si4) pn_si4 rfl (by first | rfl | exact o_5 (by assumption)) (by first | rfl | exact o_5 (by assumption)) (by first | rfl | exact o_5 (by assumption)) (by first | rfl | exact o_5 (by assumption)) (by first | rfl | exact o_5 (by assumption)) ?_
  refine o_1 (pc' := 1) rfl d_si4_0 rfl (by first | rfl | assumption) ?_
  refine o_2w (pc' := 4) rfl d_si4_1 (tw_19 hw) (tw_20 hw) (tw_21 hw) rfl rfl rfl ?_
  refine o_2 (pc' := 5) rfl d_si4_4 rfl ?_
  refine o_0k (pcT := 27) (pcF := 8) d_si4_5 (by decide) (by decide) rfl (fun z => ?_) (fun z => ?_)
  rotate_left 1
  · exfalso
    rw [z] at hn
    have : (0 : Int32).toInt = 0 := rfl
    omega
  refine o_2o (pc' := 30) rfl d_si4_27 (tw_4 hw) Via.refl (by assumption) ?_
  refine o_k (pcT := 58) (pcF := 33) d_si4_30 (by decide) (by decide) rfl (fun z2 => ?_) (fun z2 => ?_)
  · exact absurd z2 hg
  refine o_1 (pc' := 34) rfl d_si4_33 rfl (by first | rfl | assumption) ?_
  refine o_2 (pc' := 35) rfl d_si4_34 rfl ?_
  refine o_2 (pc' := 36) rfl d_si4_35 rfl ?_
  refine o_13 (M' := M_cp3) d_si4_36 (pc' := 39) rfl (tw_34 hw) (tw_35 hw) (tw_36 hw) (tw_37 hw) (by decide) rfl (o_6 pd_1 rfl) rfl rfl rfl rfl (c_cp3H K a0 hw a n cs h hn hcap hcs A hl) (by simp) ?_
  rintro w h1 xs ⟨b, rfl, E1, hb1, XB1, B1⟩
  have hxb : b ≠ x := by show @Ne Nat b x; have : @LT.lt Nat _ _ _ := E.lt; omega
  refine o_2z (pc' := 41) rfl d_si4_39 (by first | exact One.u | exact One.val rfl | assumption | exact One.val (by assumption)) (by first | rfl | assumption) ?_
  refine o_1 (pc' := 42) rfl d_si4_41 rfl (by first | rfl | assumption) ?_
  refine o_d (pc' := 44) rfl d_si4_42 rfl (by first | rfl | assumption) ?_
  refine o_2 (pc' := 45) rfl d_si4_44 rfl ?_
  refine o_0n (M' := M_cfa) d_si4_45 (pc' := 48) rfl (tw_41 hw) (tw_42 hw) (tw_36 hw) (tw_43 hw) (by decide) rfl (o_6 pd_2 rfl) rfl rfl rfl rfl (c_cfa K a0 hw b n cs h1 hn (by omega) hp (by rw [(o_0e hl).1]; exact B1)) (by simp) ?_
  rintro w h2 xs2 ⟨rfl, rfl⟩
  rw [(o_0e hl).2]
  refine o_06 (pc' := 51) rfl d_si4_48 (tw_24 hw) Via.refl (Or.inr ⟨(tw_25 hw), rfl, rfl⟩) (tw_10 hw) (ty := .byte) (by decide) rfl rfl (FC.ext E1) (E.ext E1) (by simp) ?_
  intro h3 W3
  have sne : RoadKit.slotOf K.Z o_l "value" "[B" ≠ RoadKit.slotOf K.Z o_l "coder" "B" := slot_ne (Or.inr (tw_23 hw)) (Or.inr (tw_25 hw)) (by decide) (t := .array .byte) (t' := .byte) (by decide) (by decide)
  have FV3 := (FV.ext E1).other W3 (Or.inr sne)
  have FC3 := (FC.ext E1).same W3
  have E3 := (E.ext E1).wr W3
  have B3 := B1.other W3 hxb
  refine o_1 (pc' := 52) rfl d_si4_51 rfl (by first | rfl | assumption) ?_
  refine o_d (pc' := 54) rfl d_si4_52 rfl (by first | rfl | assumption) ?_
  refine o_06 (pc' := 57) rfl d_si4_54 (tw_22 hw) Via.refl (Or.inr ⟨(tw_23 hw), rfl, rfl⟩) (tw_10 hw) (ty := (.array .byte)) (by decide) rfl rfl FV3 E3 (by simp) ?_
  intro h4 W4
  refine o_0b rfl d_si4_57 rfl rfl ?_
  refine ⟨(((Keep.refl h [x]).ext E1).wr W3 (Or.inl (List.mem_singleton.mpr rfl))).wr W4 (Or.inl (List.mem_singleton.mpr rfl)), hcs, hl, by omega, E3.wr W4, ⟨((FH.1.ext E1).other W3 (Or.inr t2)).other W4 (Or.inr t1), ((FH.2.ext E1).other W3 (Or.inr t5)).other W4 (Or.inr t4)⟩, b, FV3.same W4, FC3.other W4 (Or.inr (Ne.symm sne)), (XB1.wr W3).wr W4, B3.other W4 hxb⟩
theorem c_si1H (K : o_b) (a0 : Array Value) (hw : ∀ d ∈ tables_1, d.before a0 K.Z = true) (x a : Addr) (g : Int32) (cs : List Int32) (h : Heap) (hp : 0 < cs.length) (hcap : cs.length ≤ 7) (hcs : o_0i cs) (A : o_g K.Z h a .char (o_p cs)) (E : Exa K.Z h x o_l) (FV : Fld K.Z h x o_l "value" "[B" .null) (FC : Fld K.Z h x o_l "coder" "B" (.int 0)) (FH : o_38 K.Z h x 0) (SC : Sta K.Z K.Z.heap o_l "COMPACT_STRINGS" "Z" (.int g)) (hg : ¬ g = 0) (hl : o_n cs = true) :
    o_9 K M_si1 #[.ref x, .ref a] [x] h (o_09 fun h' _ => Keep h h' [x] ∧ o_0j K.Z h' x cs 0) := by
  have hz : (cs.length.toInt32).toInt = cs.length := o_0o _ (by omega)
  refine o_08 (M := M_si1) pn_si1 rfl (by first | rfl | exact o_5 (by assumption)) (by first | rfl | exact o_5 (by assumption)) ?_
  refine o_1 (pc' := 1) rfl d_si1_0 rfl (by first | rfl | assumption) ?_
  refine o_1 (pc' := 2) rfl d_si1_1 rfl (by first | rfl | assumption) ?_
  refine o_4 (v := (0 : Int32)) (pc' := 3) rfl d_si1_2 rfl ?_
  refine o_1 (pc' := 4) rfl d_si1_3 rfl (by first | rfl | assumption) ?_
  refine o_01 (z := cs.length.toInt32) (pc' := 5) rfl d_si1_4 A (by rw [hz]; simp) ?_
  refine o_1c (pc' := 6) rfl d_si1_5 ?_
  refine o_4n (M' := M_si4) d_si1_6 (pc' := 9) rfl rfl rfl (tw_31 hw) (tw_32 hw) (tw_2 hw) (tw_33 hw) (by decide) rfl (o_6 pd_3 rfl) rfl rfl rfl rfl (c_si4H K a0 hw x a _ g cs h hz hp hcap hcs A E FV FC FH SC hg hl) (by simp) ?_
  intro h1 xs q
  refine o_0b rfl d_si1_9 rfl rfl ?_
  exact q
theorem c_sibH (K : o_b) (a0 : Array Value) (hw : ∀ d ∈ tables_1, d.before a0 K.Z = true) (x b : Addr) (cs : List Int32) (h : Heap) (hcs : o_0i cs) (ql : o_n cs = true) (hl : cs.length < 2 ^ 20) (E : Exa K.Z h x o_l) (FV : Fld K.Z h x o_l "value" "[B" .null) (FC : Fld K.Z h x o_l "coder" "B" (.int 0)) (FH : o_38 K.Z h x 0) (XB : Exa K.Z h b "[B") (B : o_g K.Z h b .byte (o_p (cs.map o_04))) (hxb : b ≠ x) :
    o_9 K M_sib #[.ref x, .ref b, .int 0] [x] h (o_09 fun h' _ => Keep h h' [x] ∧ o_0j K.Z h' x cs 0) := by
  obtain ⟨⟨t1, t2, t3⟩, t4, t5⟩ := o_4u hw
  have sne : RoadKit.slotOf K.Z o_l "value" "[B" ≠ RoadKit.slotOf K.Z o_l "coder" "B" := slot_ne (Or.inr (tw_23 hw)) (Or.inr (tw_25 hw)) (by decide) (t := .array .byte) (t' := .byte) (by decide) (by decide)
  refine o_1d (M := M_sib) pn_sib rfl (by first | rfl | exact o_5 (by assumption)) (by first | rfl | exact o_5 (by assumption)) (by first | rfl | exact o_5 (by assumption)) ?_
  refine o_1 (pc' := 1) rfl d_sib_0 rfl (by first | rfl | assumption) ?_
  refine o_2w (pc' := 4) rfl d_sib_1 (tw_19 hw) (tw_20 hw) (tw_21 hw) rfl rfl rfl ?_
  refine o_1 (pc' := 5) rfl d_sib_4 rfl (by first | rfl | assumption) ?_
  refine o_1 (pc' := 6) rfl d_sib_5 rfl (by first | rfl | assumption) ?_
  refine o_06 (pc' := 9) rfl d_sib_6 (tw_22 hw) Via.refl (Or.inr ⟨(tw_23 hw), rfl, rfl⟩) (tw_10 hw) (ty := (.array .byte)) (by decide) rfl rfl FV (by assumption) (by simp) ?_
  intro h1 W1
  have FV1 := FV.same W1
  have FC1 := FC.other W1 (Or.inr (Ne.symm sne))
  have E1 := E.wr W1
  have B1 := B.other W1 hxb
  refine o_1 (pc' := 10) rfl d_sib_9 rfl (by first | rfl | assumption) ?_
  refine o_2 (pc' := 11) rfl d_sib_10 rfl ?_
  refine o_06 (pc' := 14) rfl d_sib_11 (tw_24 hw) Via.refl (Or.inr ⟨(tw_25 hw), rfl, rfl⟩) (tw_10 hw) (ty := .byte) (by decide) rfl rfl FC1 E1 (by simp) ?_
  intro h2 W2
  refine o_0b rfl d_sib_14 rfl rfl ?_
  exact ⟨(Keep.of_wr W1).wr W2 (Or.inl (List.mem_singleton.mpr rfl)), hcs, ql, hl, E1.wr W2, ⟨(FH.1.other W1 (Or.inr t1)).other W2 (Or.inr t2), (FH.2.other W1 (Or.inr t4)).other W2 (Or.inr t5)⟩, b, FV1.other W2 (Or.inr sne), FC1.same W2, (XB.wr W1).wr W2, B1.other W2 hxb⟩
theorem c_ltbH (K : o_b) (a0 : Array Value) (hw : ∀ d ∈ tables_1, d.before a0 K.Z = true) (c : Int32) (h : Heap) :
    o_9 K M_ltb #[.int c] [] h (o_c fun w h' _ => ∃ b : Addr, w = .ref b ∧ Ext h h' ∧ h.size ≤ b ∧ Exa K.Z h' b "[B" ∧ o_g K.Z h' b .byte (o_p [o_04 c])) := by
  refine o_x (M := M_ltb) pn_ltb rfl (by first | rfl | exact o_5 (by assumption)) ?_
  refine o_4 (v := (1 : Int32)) (pc' := 1) rfl d_ltb_0 rfl ?_
  refine o_4p (ad := "[B") (by decide) (pc' := 3) rfl d_ltb_1 (tw_14 hw) (N := 1) (cap := 1) (by decide) (by decide) rfl rfl rfl ?_
  intro b h1 eb E1 X1 B1
  refine o_0a (pc' := 4) rfl d_ltb_3 (by first | rfl | assumption) ?_
  refine o_4 (v := (0 : Int32)) (pc' := 5) rfl d_ltb_4 rfl ?_
  refine o_2 (pc' := 6) rfl d_ltb_5 rfl ?_
  refine o_4w (pc' := 7) rfl d_ltb_6 ?_
  refine o_59 (pc' := 8) rfl d_ltb_7 B1 (i := 0) (by decide) (by simp) (o_5g c) (by simp) ?_
  intro h2 k2 B2
  refine o_i rfl rfl (by first | rfl | assumption) d_ltb_8 rfl rfl ?_
  exact ⟨b, rfl, o_f E1 k2 (by intro x hx; cases List.mem_singleton.mp hx; omega), by omega, X1.keep k2, B2⟩
theorem d_svc_0 : decode Bn33 0 = .ok (.getstatic 38, 3) := by decide +kernel
theorem d_svc_3 : decode Bn33 3 = .ok (.ifCond .eq 23, 3) := by decide +kernel
theorem d_svc_6 : decode Bn33 6 = .ok (.iload_n 0, 1) := by decide +kernel
theorem d_svc_7 : decode Bn33 7 = .ok (.invokestatic 1015, 3) := by decide +kernel
theorem d_svc_10 : decode Bn33 10 = .ok (.ifCond .eq 16, 3) := by decide +kernel
theorem d_svc_13 : decode Bn33 13 = .ok (.new 10, 3) := by decide +kernel
theorem d_svc_16 : decode Bn33 16 = .ok (.dup, 1) := by decide +kernel
theorem d_svc_17 : decode Bn33 17 = .ok (.iload_n 0, 1) := by decide +kernel
theorem d_svc_18 : decode Bn33 18 = .ok (.invokestatic 1018, 3) := by decide +kernel
theorem d_svc_21 : decode Bn33 21 = .ok (.iconst 0, 1) := by decide +kernel
theorem d_svc_22 : decode Bn33 22 = .ok (.invokespecial 209, 3) := by decide +kernel
theorem d_svc_25 : decode Bn33 25 = .ok (.areturn, 1) := by decide +kernel
abbrev M_svc : o_7 := (Yn52, jdk_42_method_139_code, 1, (Option.some (FieldType.object "java/lang/String")), ({ frames := 2, cells := 2, slots := 5, locals := 28 } : Room))
theorem pn_svc : plainFor (o_7.y M_svc) = true := plainFor_of_name (by first | (simp [plainName, overriddenIn]; done) | decide +kernel)
theorem c_svcH (K : o_b) (a0 : Array Value) (hw : ∀ d ∈ tables_1, d.before a0 K.Z = true) (g : Int32) (SC : Sta K.Z K.Z.heap o_l "COMPACT_STRINGS" "Z" (.int g)) (hg : ¬ g = 0) (c : Int32) (h : Heap) (h0 : 0 ≤ c.toInt) (h1 : c.toInt < 256) :
    o_9 K M_svc #[.int c] [] h (o_c fun w h' xs => ∃ x : Addr, w = .ref x ∧ Ext h h' ∧ h.size ≤ x ∧ x ∈ xs ∧ o_0j K.Z h' x [c] 0) := by
  have ql : o_n [c] = true := by simp [o_n, h1]
  refine o_x (M := M_svc) pn_svc rfl (by first | rfl | exact o_5 (by assumption)) ?_
  refine o_2o (pc' := 3) rfl d_svc_0 (tw_4 hw) Via.refl (by assumption) ?_
  refine o_k (pcT := 26) (pcF := 6) d_svc_3 (by decide) (by decide) rfl (fun q => ?_) (fun q => ?_)
  · exact absurd q hg
  refine o_2 (pc' := 7) rfl d_svc_6 rfl ?_
  refine o_03 (M' := M_cen) d_svc_7 (pc' := 10) rfl (o_0 hw 5 rfl) (o_0 hw 6 rfl) (tw_7 hw) (o_0 hw 8 rfl) (by decide) rfl (o_6 pd_6 rfl) rfl rfl rfl rfl (c_cen K a0 hw c h) (by simp) ?_
  rintro w h2 xs ⟨rfl, rfl⟩
  rw [if_pos h1]
  refine o_k (pcT := 26) (pcF := 13) d_svc_10 (by decide) (by decide) rfl (fun q2 => ?_) (fun q2 => ?_)
  · exact absurd q2 (by decide)
  refine o_29 (pc' := 16) rfl d_svc_13 (tw_9 hw) (tw_10 hw) (tw_2 hw) rfl rfl ?_
  intro x h3 ex E3 X3 D3
  have FV := D3 (Or.inr (tw_23 hw)) (ty := .array .byte) (by decide)
  have FC := D3 (Or.inr (tw_25 hw)) (ty := .byte) (by decide)
  have FH : o_38 K.Z h3 x 0 := ⟨D3 (Or.inl (tw_430 hw)) (ty := .int) (by decide), D3 (Or.inl (tw_432 hw)) (ty := .boolean) (by decide)⟩
  refine o_0a (pc' := 17) rfl d_svc_16 (by first | rfl | assumption) ?_
  refine o_2 (pc' := 18) rfl d_svc_17 rfl ?_
  refine o_03 (M' := M_ltb) d_svc_18 (pc' := 21) rfl (o_0 hw 11 rfl) (o_0 hw 12 rfl) (tw_7 hw) (o_0 hw 13 rfl) (by decide) rfl (o_6 pd_7 rfl) rfl rfl rfl rfl (c_ltbH K a0 hw c h3) (by simp) ?_
  rintro w h4 xs4 ⟨b, rfl, E4, hb4, XB4, B4⟩
  refine o_4 (v := (0 : Int32)) (pc' := 22) rfl d_svc_21 rfl ?_
  have hx3 : @LT.lt Nat _ x h3.size := X3.lt
  refine o_3v (M' := M_sib) d_svc_22 (pc' := 25) rfl rfl rfl (o_0 hw 15 rfl) (tw_16 hw) (tw_2 hw) (tw_18 hw) (by decide) rfl (o_6 pd_8 rfl) rfl rfl rfl rfl (c_sibH K a0 hw x b [c] h4 (by simp [o_0i]; omega) ql (by simp) (X3.ext E4) (FV.ext E4) (FC.ext E4) (FH.ext E4) XB4 B4 (o_4k (by omega))) (by simp) ?_
  rintro h5 xs5 ⟨k5, S5⟩
  refine o_i rfl rfl (by first | rfl | assumption) d_svc_25 rfl rfl ?_
  exact ⟨x, rfl, o_f (o_t E3 E4) k5 (by intro z hz; cases List.mem_singleton.mp hz; omega), by omega, by simp, S5⟩
def o_m (cs : List Int32) : Int32 := cs.foldl (fun a c => 31 * a + c) 0
theorem d_sgh_0 : decode Bn13 0 = .ok (.iload_n 2, 1) := by decide +kernel
theorem d_sgh_1 : decode Bn13 1 = .ok (.iload_n 3, 1) := by decide +kernel
theorem d_sgh_2 : decode Bn13 2 = .ok (.iadd, 1) := by decide +kernel
theorem d_sgh_3 : decode Bn13 3 = .ok (.istore 4, 2) := by decide +kernel
theorem d_sgh_5 : decode Bn13 5 = .ok (.iload_n 2, 1) := by decide +kernel
theorem d_sgh_6 : decode Bn13 6 = .ok (.istore 5, 2) := by decide +kernel
theorem d_sgh_8 : decode Bn13 8 = .ok (.iload 5, 2) := by decide +kernel
theorem d_sgh_10 : decode Bn13 10 = .ok (.iload 4, 2) := by decide +kernel
theorem d_sgh_12 : decode Bn13 12 = .ok (.if_icmp .ge 23, 3) := by decide +kernel
theorem d_sgh_15 : decode Bn13 15 = .ok (.bipush 31, 2) := by decide +kernel
theorem d_sgh_17 : decode Bn13 17 = .ok (.iload_n 0, 1) := by decide +kernel
theorem d_sgh_18 : decode Bn13 18 = .ok (.imul, 1) := by decide +kernel
theorem d_sgh_19 : decode Bn13 19 = .ok (.aload_n 1, 1) := by decide +kernel
theorem d_sgh_20 : decode Bn13 20 = .ok (.iload 5, 2) := by decide +kernel
theorem d_sgh_22 : decode Bn13 22 = .ok (.baload, 1) := by decide +kernel
theorem d_sgh_23 : decode Bn13 23 = .ok (.sipush 255, 3) := by decide +kernel
theorem d_sgh_26 : decode Bn13 26 = .ok (.iand, 1) := by decide +kernel
theorem d_sgh_27 : decode Bn13 27 = .ok (.iadd, 1) := by decide +kernel
theorem d_sgh_28 : decode Bn13 28 = .ok (.istore_n 0, 1) := by decide +kernel
theorem d_sgh_29 : decode Bn13 29 = .ok (.iinc 5 1, 3) := by decide +kernel
theorem d_sgh_32 : decode Bn13 32 = .ok (.goto (-24), 3) := by decide +kernel
theorem d_sgh_35 : decode Bn13 35 = .ok (.iload_n 0, 1) := by decide +kernel
theorem d_sgh_36 : decode Bn13 36 = .ok (.ireturn, 1) := by decide +kernel
abbrev M_sgh : o_7 := (Yn53, jdk_48_method_5_code, 6, (Option.some FieldType.int), ({ frames := 0, cells := 0, slots := 0, locals := 0 } : Room))
theorem pn_sgh : plainFor (o_7.y M_sgh) = true := plainFor_of_name (by first | (simp [plainName, overriddenIn]; done) | decide +kernel)
theorem c_sgh (K : o_b) (a0 : Array Value) (hw : ∀ d ∈ tables_1, d.before a0 K.Z = true) (b : Addr) (cs : List Int32) (n : Int32) (h : Heap) (hn : n.toInt = cs.length) (hl : cs.length < 2 ^ 20) (hcs : o_0i cs) (ql : o_n cs = true) (B : o_g K.Z h b .byte (o_p (cs.map o_04))) :
    o_9 K M_sgh #[.int 0, .ref b, .int 0, .int n] [] h (o_c fun w h' _ => w = .int (o_m cs) ∧ h' = h) := by
  have v1 : (1 : Int32).toInt = 1 := rfl
  have e0 : (0 : Int32) + n = n := by simp
  refine o_61 (M := M_sgh) pn_sgh rfl (by first | rfl | exact o_5 (by assumption)) (by first | rfl | exact o_5 (by assumption)) (by first | rfl | exact o_5 (by assumption)) (by first | rfl | exact o_5 (by assumption)) ?_
  refine o_2 (pc' := 1) rfl d_sgh_0 rfl ?_
  refine o_2 (pc' := 2) rfl d_sgh_1 rfl ?_
  refine o_0h (pc' := 3) rfl d_sgh_2 ?_
  rw [e0]
  refine o_1j (pc' := 5) rfl d_sgh_3 (by first | exact One.u | exact One.val rfl | assumption | exact One.val (by assumption)) ?_
  refine o_2 (pc' := 6) rfl d_sgh_5 rfl ?_
  refine o_1a (pc' := 8) rfl d_sgh_6 (by first | exact One.u | exact One.val rfl | assumption | exact One.val (by assumption)) ?_
  suffices key : ∀ (k i : Nat) (j a : Int32), i + k = cs.length → j.toInt = i → a = o_m (cs.take i) → o_3 K M_sgh (o_c fun w h' _ => w = .int (o_m cs) ∧ h' = h) 8 [.val (.int a), .val (.ref b), .val (.int 0), .val (.int n), .val (.int n), .val (.int j)] [] [] h 0 0 from
    key cs.length 0 0 0 (by omega) rfl rfl
  intro k
  induction k with
  | zero =>
    intro i j a hik hj ha
    refine o_a (pc' := 10) rfl d_sgh_8 rfl ?_
    refine o_a (pc' := 12) rfl d_sgh_10 rfl ?_
    refine o_14 (pcT := 35) (pcF := 15) d_sgh_12 (by decide) (by decide) rfl (fun q => ?_) (fun q => ?_)
    rotate_left 1
    · rw [Int32.lt_iff_toInt_lt] at q
      omega
    refine o_2 (pc' := 36) rfl d_sgh_35 rfl ?_
    refine o_00 rfl d_sgh_36 rfl rfl ?_
    exact ⟨by rw [ha, List.take_of_length_le (by omega)], rfl⟩
  | succ k ih =>
    intro i j a hik hj ha
    have hi : i < cs.length := by omega
    obtain ⟨c, hc⟩ : ∃ c, cs[i]? = some c := ⟨cs[i], by simp [hi]⟩
    have hcr := hcs c (List.mem_of_getElem? hc)
    have hcl := o_2l ql hc
    refine o_a (pc' := 10) rfl d_sgh_8 rfl ?_
    refine o_a (pc' := 12) rfl d_sgh_10 rfl ?_
    refine o_14 (pcT := 35) (pcF := 15) d_sgh_12 (by decide) (by decide) rfl (fun q => ?_) (fun q => ?_)
    · exact absurd (by rw [Int32.lt_iff_toInt_lt]; omega) q
    refine o_u (v := (31 : Int32)) (pc' := 17) rfl d_sgh_15 rfl ?_
    refine o_2 (pc' := 18) rfl d_sgh_17 rfl ?_
    refine o_9k (pc' := 19) rfl d_sgh_18 ?_
    refine o_1 (pc' := 20) rfl d_sgh_19 rfl (by first | rfl | assumption) ?_
    refine o_a (pc' := 22) rfl d_sgh_20 rfl ?_
    refine o_34 (pc' := 23) rfl d_sgh_22 B (i := i) hj (o_2h hc) ?_
    refine o_1f (v := (255 : Int32)) (pc' := 26) rfl d_sgh_23 rfl ?_
    refine o_1l (pc' := 27) rfl d_sgh_26 ?_
    rw [o_2f hcr.1 hcl]
    refine o_0h (pc' := 28) rfl d_sgh_27 ?_
    refine o_77 (pc' := 29) rfl d_sgh_28 (by first | exact One.u | exact One.val rfl | assumption | exact One.val (by assumption)) ?_
    refine o_4r (z := (1 : Int32)) (pc' := 32) rfl d_sgh_29 rfl ?_
    refine o_o (pc' := 8) d_sgh_32 (by decide) (by decide) ?_
    refine ih (i + 1) (j + 1) _ (by omega) (by rw [o_20 hj v1] <;> omega) ?_
    rw [List.take_add_one, hc, ha]
    simp [o_m, List.foldl_append]
theorem d_vhc_0 : decode Bn41 0 = .ok (.iload 4, 2) := by decide +kernel
theorem d_vhc_2 : decode Bn41 2 = .ok (.tableswitch 127 4 10 #[42, 55, 127, 127, 88, 101, 114], 42) := by decide +kernel
theorem d_vhc_44 : decode Bn41 44 = .ok (.iload_n 3, 1) := by decide +kernel
theorem d_vhc_45 : decode Bn41 45 = .ok (.aload_n 0, 1) := by decide +kernel
theorem d_vhc_46 : decode Bn41 46 = .ok (.checkcast 60, 3) := by decide +kernel
theorem d_vhc_49 : decode Bn41 49 = .ok (.iload_n 1, 1) := by decide +kernel
theorem d_vhc_50 : decode Bn41 50 = .ok (.iload_n 2, 1) := by decide +kernel
theorem d_vhc_51 : decode Bn41 51 = .ok (.invokestatic 62, 3) := by decide +kernel
theorem d_vhc_54 : decode Bn41 54 = .ok (.goto 103, 3) := by decide +kernel
theorem d_vhc_157 : decode Bn41 157 = .ok (.ireturn, 1) := by decide +kernel
abbrev M_vhc : o_7 := (Yn54, jdk_48_method_4_code, 5, (Option.some FieldType.int), ({ frames := 1, cells := 0, slots := 0, locals := 18 } : Room))
theorem pn_vhc : plainFor (o_7.y M_vhc) = true := plainFor_of_name (by first | (simp [plainName, overriddenIn]; done) | decide +kernel)
theorem c_vhc (K : o_b) (a0 : Array Value) (hw : ∀ d ∈ tables_1, d.before a0 K.Z = true) (b : Addr) (cs : List Int32) (n : Int32) (h : Heap) (hn : n.toInt = cs.length) (hl : cs.length < 2 ^ 20) (hcs : o_0i cs) (ql : o_n cs = true) (B : o_g K.Z h b .byte (o_p (cs.map o_04))) (X : Exa K.Z h b "[B") :
    o_9 K M_vhc #[.ref b, .int 0, .int n, .int 0, .int 4] [] h (o_c fun w h' _ => w = .int (o_m cs) ∧ h' = h) := by
  refine o_5c (M := M_vhc) pn_vhc rfl (by first | rfl | exact o_5 (by assumption)) (by first | rfl | exact o_5 (by assumption)) (by first | rfl | exact o_5 (by assumption)) (by first | rfl | exact o_5 (by assumption)) (by first | rfl | exact o_5 (by assumption)) ?_
  refine o_a (pc' := 2) rfl d_vhc_0 rfl ?_
  refine o_5r (o := 42) (pc' := 44) d_vhc_2 (by decide) (by decide) (by decide) (by decide) ?_
  refine o_2 (pc' := 45) rfl d_vhc_44 rfl ?_
  refine o_1 (pc' := 46) rfl d_vhc_45 rfl (by first | rfl | assumption) ?_
  refine o_24 (pc' := 49) rfl d_vhc_46 (o_0 hw 439 rfl) (Ins.self X) ?_
  refine o_2 (pc' := 50) rfl d_vhc_49 rfl ?_
  refine o_2 (pc' := 51) rfl d_vhc_50 rfl ?_
  refine o_2d (M' := M_sgh) d_vhc_51 (pc' := 54) rfl (o_0 hw 441 rfl) (o_0 hw 442 rfl) (tw_334 hw) (o_0 hw 443 rfl) (by decide) rfl (o_6 pd_9 rfl) rfl rfl rfl rfl (c_sgh K a0 hw b cs n h hn hl hcs ql B) (by simp) ?_
  rintro w h1 xs1 ⟨rfl, rfl⟩
  refine o_o (pc' := 157) d_vhc_54 (by decide) (by decide) ?_
  refine o_00 rfl d_vhc_157 rfl rfl ?_
  exact ⟨rfl, rfl⟩
section Lsw
variable {K : o_b} {M : o_7} {Q : o_0g} {pc pc' : Nat} {Ls : List Slot} {St : List Value} {sf : List Addr} {h : Heap} {cs sl : Nat}
theorem o_92 {dflt : Int} {prs : Array (Int × Int)} {len : Nat} {x : Int32} {v o : Int} (hd : decode M.b pc = .ok (.lookupswitch dflt prs, len)) (hord : (prs.toList.zip (prs.toList.drop 1)).all (fun (a, next) => a.1 < next.1) = true) (hf : prs.find? (·.1 == x.toInt) = some (v, o)) (ho : 0 ≤ (pc : Int) + o) (hp : ((pc : Int) + o).toNat = pc') (k : o_3 K M Q pc' Ls St sf h cs sl) : o_3 K M Q pc Ls (.int x :: St) sf h cs sl :=
  o_e k fun p e s m args below meth c T locs cs' sl' B X eT t q => X.lookupswitchHit B.1 (g := mkF m pc Ls.toArray (.int x :: St)) rfl rfl (hb B.2.1 hd) hord hf ho t (by subst hp; exact q)
theorem o_8i {dflt : Int} {prs : Array (Int × Int)} {len : Nat} {x : Int32} (hd : decode M.b pc = .ok (.lookupswitch dflt prs, len)) (hord : (prs.toList.zip (prs.toList.drop 1)).all (fun (a, next) => a.1 < next.1) = true) (hf : prs.find? (·.1 == x.toInt) = none) (ho : 0 ≤ (pc : Int) + dflt) (hp : ((pc : Int) + dflt).toNat = pc') (k : o_3 K M Q pc' Ls St sf h cs sl) : o_3 K M Q pc Ls (.int x :: St) sf h cs sl :=
  o_e k fun p e s m args below meth c T locs cs' sl' B X eT t q => X.lookupswitchMiss B.1 (g := mkF m pc Ls.toArray (.int x :: St)) rfl rfl (hb B.2.1 hd) hord hf ho t (by subst hp; exact q)
end Lsw
theorem d_lhc_0 : decode Bn21 0 = .ok (.aload_n 0, 1) := by decide +kernel
theorem d_lhc_1 : decode Bn21 1 = .ok (.arraylength, 1) := by decide +kernel
theorem d_lhc_2 : decode Bn21 2 = .ok (.lookupswitch 40 #[(0, 26), (1, 30)], 26) := by decide +kernel
theorem d_lhc_32 : decode Bn21 32 = .ok (.aload_n 0, 1) := by decide +kernel
theorem d_lhc_33 : decode Bn21 33 = .ok (.iconst 0, 1) := by decide +kernel
theorem d_lhc_34 : decode Bn21 34 = .ok (.baload, 1) := by decide +kernel
theorem d_lhc_35 : decode Bn21 35 = .ok (.sipush 255, 3) := by decide +kernel
theorem d_lhc_38 : decode Bn21 38 = .ok (.iand, 1) := by decide +kernel
theorem d_lhc_39 : decode Bn21 39 = .ok (.goto 12, 3) := by decide +kernel
theorem d_lhc_42 : decode Bn21 42 = .ok (.aload_n 0, 1) := by decide +kernel
theorem d_lhc_43 : decode Bn21 43 = .ok (.iconst 0, 1) := by decide +kernel
theorem d_lhc_44 : decode Bn21 44 = .ok (.aload_n 0, 1) := by decide +kernel
theorem d_lhc_45 : decode Bn21 45 = .ok (.arraylength, 1) := by decide +kernel
theorem d_lhc_46 : decode Bn21 46 = .ok (.iconst 0, 1) := by decide +kernel
theorem d_lhc_47 : decode Bn21 47 = .ok (.iconst 4, 1) := by decide +kernel
theorem d_lhc_48 : decode Bn21 48 = .ok (.invokestatic 84, 3) := by decide +kernel
theorem d_lhc_51 : decode Bn21 51 = .ok (.ireturn, 1) := by decide +kernel
abbrev M_lhc : o_7 := (Yn55, jdk_43_method_21_code, 1, (Option.some FieldType.int), ({ frames := 2, cells := 0, slots := 0, locals := 34 } : Room))
theorem pn_lhc : plainFor (o_7.y M_lhc) = true := plainFor_of_name (by first | (simp [plainName, overriddenIn]; done) | decide +kernel)
theorem c_lhc1 (K : o_b) (a0 : Array Value) (hw : ∀ d ∈ tables_1, d.before a0 K.Z = true) (b : Addr) (c : Int32) (h : Heap) (hcs : o_0i [c]) (ql : o_n [c] = true) (B : o_g K.Z h b .byte (o_p ([c].map o_04))) :
    o_9 K M_lhc #[.ref b] [] h (o_c fun w h' _ => w = .int (o_m [c]) ∧ h' = h) := by
  have hcr := hcs c (by simp)
  have hcl := o_2l ql (i := 0) (c := c) rfl
  refine o_x (M := M_lhc) pn_lhc rfl (by first | rfl | exact o_5 (by assumption)) ?_
  refine o_1 (pc' := 1) rfl d_lhc_0 rfl (by first | rfl | assumption) ?_
  refine o_01 (z := 1) (pc' := 2) rfl d_lhc_1 B rfl ?_
  refine o_92 (v := 1) (o := 30) (pc' := 32) d_lhc_2 (by decide) (by decide) (by decide) (by decide) ?_
  refine o_1 (pc' := 33) rfl d_lhc_32 rfl (by first | rfl | assumption) ?_
  refine o_4 (v := (0 : Int32)) (pc' := 34) rfl d_lhc_33 rfl ?_
  refine o_34 (pc' := 35) rfl d_lhc_34 B (i := 0) (by decide) rfl ?_
  refine o_1f (v := (255 : Int32)) (pc' := 38) rfl d_lhc_35 rfl ?_
  refine o_1l (pc' := 39) rfl d_lhc_38 ?_
  rw [o_2f hcr.1 hcl]
  refine o_o (pc' := 51) d_lhc_39 (by decide) (by decide) ?_
  refine o_00 rfl d_lhc_51 rfl rfl ?_
  exact ⟨by simp [o_m], rfl⟩
theorem c_lhc2 (K : o_b) (a0 : Array Value) (hw : ∀ d ∈ tables_1, d.before a0 K.Z = true) (b : Addr) (c d : Int32) (h : Heap) (hcs : o_0i [c, d]) (ql : o_n [c, d] = true) (B : o_g K.Z h b .byte (o_p ([c, d].map o_04))) (X : Exa K.Z h b "[B") :
    o_9 K M_lhc #[.ref b] [] h (o_c fun w h' _ => w = .int (o_m [c, d]) ∧ h' = h) := by
  refine o_x (M := M_lhc) pn_lhc rfl (by first | rfl | exact o_5 (by assumption)) ?_
  refine o_1 (pc' := 1) rfl d_lhc_0 rfl (by first | rfl | assumption) ?_
  refine o_01 (z := 2) (pc' := 2) rfl d_lhc_1 B rfl ?_
  refine o_8i (pc' := 42) d_lhc_2 (by decide) (by decide) (by decide) (by decide) ?_
  refine o_1 (pc' := 43) rfl d_lhc_42 rfl (by first | rfl | assumption) ?_
  refine o_4 (v := (0 : Int32)) (pc' := 44) rfl d_lhc_43 rfl ?_
  refine o_1 (pc' := 45) rfl d_lhc_44 rfl (by first | rfl | assumption) ?_
  refine o_01 (z := 2) (pc' := 46) rfl d_lhc_45 B rfl ?_
  refine o_4 (v := (0 : Int32)) (pc' := 47) rfl d_lhc_46 rfl ?_
  refine o_4 (v := (4 : Int32)) (pc' := 48) rfl d_lhc_47 rfl ?_
  refine o_3z (M' := M_vhc) d_lhc_48 (pc' := 51) rfl (o_0 hw 436 rfl) (o_0 hw 437 rfl) (tw_334 hw) (o_0 hw 438 rfl) (by decide) rfl (o_6 pd_10 rfl) rfl rfl rfl rfl (c_vhc K a0 hw b [c, d] 2 h rfl (by show 2 < 2 ^ 20; decide) hcs ql B X) (by simp) ?_
  rintro w h1 xs1 ⟨rfl, rfl⟩
  refine o_00 rfl d_lhc_51 rfl rfl ?_
  exact ⟨rfl, rfl⟩
theorem d_shc_0 : decode Bn14 0 = .ok (.aload_n 0, 1) := by decide +kernel
theorem d_shc_1 : decode Bn14 1 = .ok (.getfield 19, 3) := by decide +kernel
theorem d_shc_4 : decode Bn14 4 = .ok (.istore_n 1, 1) := by decide +kernel
theorem d_shc_5 : decode Bn14 5 = .ok (.iload_n 1, 1) := by decide +kernel
theorem d_shc_6 : decode Bn14 6 = .ok (.ifCond .ne 52, 3) := by decide +kernel
theorem d_shc_9 : decode Bn14 9 = .ok (.aload_n 0, 1) := by decide +kernel
theorem d_shc_10 : decode Bn14 10 = .ok (.getfield 23, 3) := by decide +kernel
theorem d_shc_13 : decode Bn14 13 = .ok (.ifCond .ne 45, 3) := by decide +kernel
theorem d_shc_16 : decode Bn14 16 = .ok (.aload_n 0, 1) := by decide +kernel
theorem d_shc_17 : decode Bn14 17 = .ok (.invokevirtual 492, 3) := by decide +kernel
theorem d_shc_20 : decode Bn14 20 = .ok (.ifCond .eq 13, 3) := by decide +kernel
theorem d_shc_23 : decode Bn14 23 = .ok (.aload_n 0, 1) := by decide +kernel
theorem d_shc_24 : decode Bn14 24 = .ok (.getfield 9, 3) := by decide +kernel
theorem d_shc_27 : decode Bn14 27 = .ok (.invokestatic 628, 3) := by decide +kernel
theorem d_shc_30 : decode Bn14 30 = .ok (.goto 10, 3) := by decide +kernel
theorem d_shc_40 : decode Bn14 40 = .ok (.istore_n 1, 1) := by decide +kernel
theorem d_shc_41 : decode Bn14 41 = .ok (.iload_n 1, 1) := by decide +kernel
theorem d_shc_42 : decode Bn14 42 = .ok (.ifCond .ne 11, 3) := by decide +kernel
theorem d_shc_53 : decode Bn14 53 = .ok (.aload_n 0, 1) := by decide +kernel
theorem d_shc_54 : decode Bn14 54 = .ok (.iload_n 1, 1) := by decide +kernel
theorem d_shc_55 : decode Bn14 55 = .ok (.putfield 19, 3) := by decide +kernel
theorem d_shc_58 : decode Bn14 58 = .ok (.iload_n 1, 1) := by decide +kernel
theorem d_shc_59 : decode Bn14 59 = .ok (.ireturn, 1) := by decide +kernel
abbrev M_shc : o_7 := (Yn56, jdk_42_method_78_code, 2, (Option.some FieldType.int), ({ frames := 3, cells := 0, slots := 0, locals := 48 } : Room))
theorem pn_shc : plainFor (o_7.y M_shc) = true := plainFor_of_name (by first | (simp [plainName, overriddenIn]; done) | decide +kernel)
theorem c_shc (K : o_b) (a0 : Array Value) (hw : ∀ d ∈ tables_1, d.before a0 K.Z = true) (g : Int32) (SC : Sta K.Z K.Z.heap o_l "COMPACT_STRINGS" "Z" (.int g)) (hg : ¬ g = 0) (x : Addr) (cs : List Int32) (n : Int32) (h : Heap) (S : o_0j K.Z h x cs n) (hn : n = 0 ∨ n = o_m cs) (h0 : ¬ o_m cs = 0) (LH : ∀ (b : Addr) (h : Heap), Exa K.Z h b "[B" → o_g K.Z h b .byte (o_p (cs.map o_04)) → o_9 K M_lhc #[.ref b] [] h (o_c fun w h' _ => w = .int (o_m cs) ∧ h' = h)) :
    o_9 K M_shc #[.ref x] [x] h (o_c fun w h' _ => w = .int (o_m cs) ∧ (h' = h ∨ Wr h h' x (RoadKit.slotOf K.Z o_l "hash" "I") (.int (o_m cs))) ∧ o_0j K.Z h' x cs (o_m cs)) := by
  obtain ⟨⟨t1, t2, t3⟩, t4, t5⟩ := o_4u hw
  have S' := S
  obtain ⟨f1, f2, f3, f4, ⟨f5, f5'⟩, b, f6, f7, f8, f9⟩ := S
  refine o_3f (M := M_shc) pn_shc rfl (by first | rfl | exact o_5 (by assumption)) ?_
  refine o_1 (pc' := 1) rfl d_shc_0 rfl (by first | rfl | assumption) ?_
  refine o_q (pc' := 4) rfl d_shc_1 (tw_429 hw) Via.refl f5 ?_
  refine o_4o (pc' := 5) rfl d_shc_4 (by first | exact One.u | exact One.val rfl | assumption | exact One.val (by assumption)) ?_
  refine o_2 (pc' := 6) rfl d_shc_5 rfl ?_
  rcases hn with rfl | rfl
  · skip
    refine o_0k (pcT := 58) (pcF := 9) d_shc_6 (by decide) (by decide) rfl (fun q => ?_) (fun q => ?_)
    · exact absurd rfl q
    refine o_1 (pc' := 10) rfl d_shc_9 rfl (by first | rfl | assumption) ?_
    refine o_q (pc' := 13) rfl d_shc_10 (o_0 hw 431 rfl) Via.refl f5' ?_
    refine o_0k (pcT := 58) (pcF := 16) d_shc_13 (by decide) (by decide) rfl (fun q2 => ?_) (fun q2 => ?_)
    · exact absurd rfl q2
    refine o_1 (pc' := 17) rfl d_shc_16 rfl (by first | rfl | assumption) ?_
    refine o_0p (M' := M_isl) d_shc_17 (pc' := 20) rfl (tw_346 hw) (tw_347 hw) (tw_349 hw) (tw_348 hw) (tw_2 hw) (tw_350 hw) (by decide) rfl (o_6 pd_11 rfl) rfl rfl rfl rfl f4 (c_isl K a0 hw g SC hg x cs h S'.str) (by simp) ?_
    rintro w h1 xs1 ⟨rfl, rfl⟩
    rw [f2]
    refine o_k (pcT := 33) (pcF := 23) d_shc_20 (by decide) (by decide) rfl (fun q3 => ?_) (fun q3 => ?_)
    · exact absurd q3 (by decide)
    refine o_1 (pc' := 24) rfl d_shc_23 rfl (by first | rfl | assumption) ?_
    refine o_q (pc' := 27) rfl d_shc_24 (tw_22 hw) Via.refl f6 ?_
    refine o_03 (M' := M_lhc) d_shc_27 (pc' := 30) rfl (o_0 hw 433 rfl) (o_0 hw 434 rfl) (tw_7 hw) (o_0 hw 435 rfl) (by decide) rfl (o_6 pd_12 rfl) rfl rfl rfl rfl (LH b _ f8 f9) (by simp) ?_
    rintro w h2 xs2 ⟨rfl, rfl⟩
    refine o_o (pc' := 40) d_shc_30 (by decide) (by decide) ?_
    refine o_4o (pc' := 41) rfl d_shc_40 (by first | exact One.u | exact One.val rfl | assumption | exact One.val (by assumption)) ?_
    refine o_2 (pc' := 42) rfl d_shc_41 rfl ?_
    refine o_0k (pcT := 53) (pcF := 45) d_shc_42 (by decide) (by decide) rfl (fun q4 => ?_) (fun q4 => ?_)
    rotate_left 1
    · exact absurd q4 h0
    refine o_1 (pc' := 54) rfl d_shc_53 rfl (by first | rfl | assumption) ?_
    refine o_2 (pc' := 55) rfl d_shc_54 rfl ?_
    refine o_06 (pc' := 58) rfl d_shc_55 (tw_429 hw) Via.refl (Or.inl (tw_430 hw)) (tw_10 hw) (ty := .int) (by decide) rfl rfl f5 f4 (by simp) ?_
    intro h3 W3
    have nbx : b ≠ x := fun q => by obtain ⟨c, A, -⟩ := f9; exact ne_arr f4 (tw_10 hw) A q.symm
    refine o_2 (pc' := 59) rfl d_shc_58 rfl ?_
    refine o_00 rfl d_shc_59 rfl rfl ?_
    exact ⟨rfl, Or.inr W3, f1, f2, f3, f4.wr W3, ⟨f5.same W3, f5'.other W3 (Or.inr (Ne.symm t3))⟩, b, f6.other W3 (Or.inr (Ne.symm t1)), f7.other W3 (Or.inr (Ne.symm t2)), f8.wr W3, f9.other W3 nbx⟩
  · skip
    refine o_0k (pcT := 58) (pcF := 9) d_shc_6 (by decide) (by decide) rfl (fun q => ?_) (fun q => ?_)
    rotate_left 1
    · exact absurd q h0
    refine o_2 (pc' := 59) rfl d_shc_58 rfl ?_
    refine o_00 rfl d_shc_59 rfl rfl ?_
    exact ⟨rfl, Or.inl rfl, S'⟩
theorem d_hsh_0 : decode Bn32 0 = .ok (.aload_n 0, 1) := by decide +kernel
theorem d_hsh_1 : decode Bn32 1 = .ok (.ifnonnull 7, 3) := by decide +kernel
theorem d_hsh_8 : decode Bn32 8 = .ok (.aload_n 0, 1) := by decide +kernel
theorem d_hsh_9 : decode Bn32 9 = .ok (.invokevirtual 1, 3) := by decide +kernel
theorem d_hsh_12 : decode Bn32 12 = .ok (.dup, 1) := by decide +kernel
theorem d_hsh_13 : decode Bn32 13 = .ok (.istore_n 1, 1) := by decide +kernel
theorem d_hsh_14 : decode Bn32 14 = .ok (.iload_n 1, 1) := by decide +kernel
theorem d_hsh_15 : decode Bn32 15 = .ok (.bipush 16, 2) := by decide +kernel
theorem d_hsh_17 : decode Bn32 17 = .ok (.iushr, 1) := by decide +kernel
theorem d_hsh_18 : decode Bn32 18 = .ok (.ixor, 1) := by decide +kernel
theorem d_hsh_19 : decode Bn32 19 = .ok (.ireturn, 1) := by decide +kernel
abbrev M_hsh : o_7 := (Yn33, jdk_69_method_1_code, 2, (Option.some FieldType.int), ({ frames := 4, cells := 0, slots := 0, locals := 62 } : Room))
theorem pn_hsh : plainFor (o_7.y M_hsh) = true := plainFor_of_name (by first | (simp [plainName, overriddenIn]; done) | decide +kernel)
theorem c_hsh (K : o_b) (a0 : Array Value) (hw : ∀ d ∈ tables_1, d.before a0 K.Z = true) (g : Int32) (SC : Sta K.Z K.Z.heap o_l "COMPACT_STRINGS" "Z" (.int g)) (hg : ¬ g = 0) (x : Addr) (cs : List Int32) (n : Int32) (h : Heap) (S : o_0j K.Z h x cs n) (hn : n = 0 ∨ n = o_m cs) (h0 : ¬ o_m cs = 0) (hx : o_m cs ^^^ XT.ushr (o_m cs) 16 = o_m cs) (LH : ∀ (b : Addr) (h : Heap), Exa K.Z h b "[B" → o_g K.Z h b .byte (o_p (cs.map o_04)) → o_9 K M_lhc #[.ref b] [] h (o_c fun w h' _ => w = .int (o_m cs) ∧ h' = h)) :
    o_9 K M_hsh #[.ref x] [x] h (o_c fun w h' _ => w = .int (o_m cs) ∧ (h' = h ∨ Wr h h' x (RoadKit.slotOf K.Z o_l "hash" "I") (.int (o_m cs))) ∧ o_0j K.Z h' x cs (o_m cs)) := by
  refine o_3f (M := M_hsh) pn_hsh rfl (by first | rfl | exact o_5 (by assumption)) ?_
  refine o_1 (pc' := 1) rfl d_hsh_0 rfl (by first | rfl | assumption) ?_
  refine o_3j (pc' := 8) d_hsh_1 (by decide) (by decide) ?_
  refine o_1 (pc' := 9) rfl d_hsh_8 rfl (by first | rfl | assumption) ?_
  refine o_9p (M' := M_shc) d_hsh_9 (pc' := 12) rfl (o_0 hw 423 rfl) (o_0 hw 424 rfl) (tw_502 hw) rfl (o_0 hw 426 rfl) (o_0 hw 427 rfl) (tw_2 hw) (o_0 hw 428 rfl) (by decide) rfl (o_6 pd_13 rfl) rfl rfl rfl rfl S.2.2.2.1 (c_shc K a0 hw g SC hg x cs n h S hn h0 LH) (by simp) ?_
  rintro w h1 xs1 ⟨rfl, q⟩
  refine o_0a (pc' := 13) rfl d_hsh_12 (by first | rfl | assumption) ?_
  refine o_4o (pc' := 14) rfl d_hsh_13 (by first | exact One.u | exact One.val rfl | assumption | exact One.val (by assumption)) ?_
  refine o_2 (pc' := 15) rfl d_hsh_14 rfl ?_
  refine o_u (v := (16 : Int32)) (pc' := 17) rfl d_hsh_15 rfl ?_
  refine o_2e (pc' := 18) rfl d_hsh_17 ?_
  refine o_9l (pc' := 19) rfl d_hsh_18 ?_
  rw [hx]
  refine o_00 rfl d_hsh_19 rfl rfl ?_
  exact ⟨rfl, q⟩
/-! java.util.ArrayList of at most ten, made by its constructor without arguments (behind refs.wp, math.wp with S_MAX, S_CKI) -/
abbrev o_0r : String := "java/util/ArrayList"
abbrev o_4l : String := "java/util/AbstractList"
abbrev o_11 : String := "[Ljava/lang/Object;"
abbrev o_0m : String := "java/lang/Object"
/-- the list at l holds xs, in the array e; D: the JDK's shared empty array -/
def o_0s (Z : State) (h : Heap) (D l e : Addr) (xs : List Value) : Prop := Exa Z h l o_0r ∧ (∃ m : Int32, Fld Z h l o_4l "modCount" "I" (.int m)) ∧ Fld Z h l o_0r "size" "I" (.int xs.length.toInt32) ∧ Fld Z h l o_0r "elementData" o_11 (.ref e) ∧ xs.length ≤ 10 ∧ ((e = D ∧ xs = []) ∨ (e ≠ D ∧ o_02 Z h e o_0m (xs ++ List.replicate (10 - xs.length) .null)))
theorem o_0s.ext {Z : State} {h h' : Heap} {D l e : Addr} {xs : List Value} (F : o_0s Z h D l e xs) (E : Ext h h') : o_0s Z h' D l e xs := by
  obtain ⟨f1, ⟨m, f2⟩, f3, f4, f5, f6⟩ := F
  exact ⟨f1.ext E, ⟨m, f2.ext E⟩, f3.ext E, f4.ext E, f5, f6.imp id fun z => ⟨z.1, z.2.ext E⟩⟩
theorem o_0s.keep {Z : State} {h h' : Heap} {D l e : Addr} {xs : List Value} {ws : List Addr} (F : o_0s Z h D l e xs) (k : Keep h h' ws) (q1 : l ∉ ws) (q2 : e ≠ D → e ∉ ws) : o_0s Z h' D l e xs := by
  obtain ⟨f1, ⟨m, f2⟩, f3, f4, f5, f6⟩ := F
  exact ⟨f1.keep k, ⟨m, f2.keep k q1⟩, f3.keep k q1, f4.keep k q1, f5, f6.imp id fun z => ⟨z.1, z.2.keep k (q2 z.1)⟩⟩
theorem o_5i {Z : State} {a0 : Array Value} (hw : ∀ d ∈ tables_1, d.before a0 Z = true) : RoadKit.slotOf Z o_4l "modCount" "I" ≠ RoadKit.slotOf Z o_0r "size" "I" ∧ RoadKit.slotOf Z o_4l "modCount" "I" ≠ RoadKit.slotOf Z o_0r "elementData" o_11 ∧ RoadKit.slotOf Z o_0r "size" "I" ≠ RoadKit.slotOf Z o_0r "elementData" o_11 := by
  have L1 : Laid Z a0 o_0r o_4l "modCount" "I" := Or.inl (tw_80 hw)
  have L2 : Laid Z a0 o_0r o_0r "size" "I" := Or.inl (tw_168 hw)
  have L3 : Laid Z a0 o_0r o_0r "elementData" o_11 := Or.inl (tw_83 hw)
  exact ⟨slot_ne L1 L2 (by decide) (t := .int) (t' := .int) (by decide) (by decide), slot_ne L1 L3 (by decide) (t := .int) (t' := .array (.object "java/lang/Object")) (by decide) (by decide), slot_ne L2 L3 (by decide) (t := .int) (t' := .array (.object "java/lang/Object")) (by decide) (by decide)⟩
theorem d_aci_0 : decode Bn83 0 = .ok (.aload_n 0, 1) := by decide +kernel
theorem d_aci_1 : decode Bn83 1 = .ok (.invokespecial 1, 3) := by decide +kernel
theorem d_aci_4 : decode Bn83 4 = .ok (.return_, 1) := by decide +kernel
abbrev M_aci : o_7 := (Yn38, jdk_22_method_1_code, 1, (Option.none : Option FieldType), ({ frames := 1, cells := 0, slots := 0, locals := 12 } : Room))
theorem pn_aci : plainFor (o_7.y M_aci) = true := plainFor_of_name (by first | (simp [plainName, overriddenIn]; done) | decide +kernel)
theorem c_aci (K : o_b) (a0 : Array Value) (hw : ∀ d ∈ tables_1, d.before a0 K.Z = true) (t : Addr) (h : Heap) : o_9 K M_aci #[.ref t] [] h (o_09 fun h' _ => h' = h) := by
  refine o_x (M := M_aci) pn_aci rfl (by first | rfl | exact o_5 (by assumption)) ?_
  refine o_1 (pc' := 1) rfl d_aci_0 rfl (by first | rfl | assumption) ?_
  refine o_2w (pc' := 4) rfl d_aci_1 (o_0 hw 78 rfl) (tw_20 hw) (tw_21 hw) rfl rfl rfl ?_
  refine o_0b rfl d_aci_4 rfl rfl ?_
  rfl
theorem d_abi_0 : decode Bn67 0 = .ok (.aload_n 0, 1) := by decide +kernel
theorem d_abi_1 : decode Bn67 1 = .ok (.invokespecial 1, 3) := by decide +kernel
theorem d_abi_4 : decode Bn67 4 = .ok (.aload_n 0, 1) := by decide +kernel
theorem d_abi_5 : decode Bn67 5 = .ok (.iconst 0, 1) := by decide +kernel
theorem d_abi_6 : decode Bn67 6 = .ok (.putfield 7, 3) := by decide +kernel
theorem d_abi_9 : decode Bn67 9 = .ok (.return_, 1) := by decide +kernel
abbrev M_abi : o_7 := (Yn57, jdk_39_method_1_code, 1, (Option.none : Option FieldType), ({ frames := 2, cells := 0, slots := 0, locals := 24 } : Room))
theorem pn_abi : plainFor (o_7.y M_abi) = true := plainFor_of_name (by first | (simp [plainName, overriddenIn]; done) | decide +kernel)
theorem c_abi (K : o_b) (a0 : Array Value) (hw : ∀ d ∈ tables_1, d.before a0 K.Z = true) (t : Addr) (h : Heap) (E : Exa K.Z h t o_0r) (F : Fld K.Z h t o_4l "modCount" "I" (.int 0)) : o_9 K M_abi #[.ref t] [t] h (o_09 fun h' _ => Wr h h' t (RoadKit.slotOf K.Z o_4l "modCount" "I") (.int 0)) := by
  refine o_x (M := M_abi) pn_abi rfl (by first | rfl | exact o_5 (by assumption)) ?_
  refine o_1 (pc' := 1) rfl d_abi_0 rfl (by first | rfl | assumption) ?_
  refine o_10 (M' := M_aci) d_abi_1 (pc' := 4) rfl rfl rfl (o_0 hw 72 rfl) (tw_73 hw) (tw_76 hw) (tw_77 hw) (by decide) rfl (o_6 pd_14 rfl) rfl rfl rfl rfl (c_aci K a0 hw t h) (by simp) ?_
  rintro h1 xs1 rfl
  refine o_1 (pc' := 5) rfl d_abi_4 rfl (by first | rfl | assumption) ?_
  refine o_4 (v := (0 : Int32)) (pc' := 6) rfl d_abi_5 rfl ?_
  refine o_06 (pc' := 9) rfl d_abi_6 (o_0 hw 79 rfl) Via.refl (Or.inl (tw_80 hw)) (tw_61 hw) (ty := .int) (by decide) rfl rfl F E (by simp) ?_
  intro h2 W2
  refine o_0b rfl d_abi_9 rfl rfl ?_
  exact W2
theorem d_ai0_0 : decode Bn60 0 = .ok (.aload_n 0, 1) := by decide +kernel
theorem d_ai0_1 : decode Bn60 1 = .ok (.invokespecial 1, 3) := by decide +kernel
theorem d_ai0_4 : decode Bn60 4 = .ok (.aload_n 0, 1) := by decide +kernel
theorem d_ai0_5 : decode Bn60 5 = .ok (.getstatic 39, 3) := by decide +kernel
theorem d_ai0_8 : decode Bn60 8 = .ok (.putfield 9, 3) := by decide +kernel
theorem d_ai0_11 : decode Bn60 11 = .ok (.return_, 1) := by decide +kernel
abbrev M_ai0 : o_7 := (Yn37, jdk_38_method_2_code, 1, (Option.none : Option FieldType), ({ frames := 3, cells := 0, slots := 0, locals := 36 } : Room))
theorem pn_ai0 : plainFor (o_7.y M_ai0) = true := plainFor_of_name (by first | (simp [plainName, overriddenIn]; done) | decide +kernel)
theorem c_ai0 (K : o_b) (a0 : Array Value) (hw : ∀ d ∈ tables_1, d.before a0 K.Z = true) (D : Addr) (SD : Sta K.Z K.Z.heap o_0r "DEFAULTCAPACITY_EMPTY_ELEMENTDATA" o_11 (.ref D)) (t : Addr) (h : Heap) (E : Exa K.Z h t o_0r) (F1 : Fld K.Z h t o_4l "modCount" "I" (.int 0)) (F2 : Fld K.Z h t o_0r "size" "I" (.int 0)) (F3 : Fld K.Z h t o_0r "elementData" o_11 .null) :
    o_9 K M_ai0 #[.ref t] [t] h (o_09 fun h' _ => Keep h h' [t] ∧ o_0s K.Z h' D t D []) := by
  obtain ⟨s12, s13, s23⟩ := o_5i hw
  refine o_x (M := M_ai0) pn_ai0 rfl (by first | rfl | exact o_5 (by assumption)) ?_
  refine o_1 (pc' := 1) rfl d_ai0_0 rfl (by first | rfl | assumption) ?_
  refine o_10 (M' := M_abi) d_ai0_1 (pc' := 4) rfl rfl rfl (o_0 hw 66 rfl) (o_0 hw 67 rfl) (o_0 hw 70 rfl) (o_0 hw 71 rfl) (by decide) rfl (o_6 pd_14 rfl) rfl rfl rfl rfl (c_abi K a0 hw t h E F1) (by simp) ?_
  rintro h1 xs1 W1
  have E1 := E.wr W1
  refine o_1 (pc' := 5) rfl d_ai0_4 rfl (by first | rfl | assumption) ?_
  refine o_2o (pc' := 8) rfl d_ai0_5 (tw_81 hw) Via.refl SD ?_
  refine o_06 (pc' := 11) rfl d_ai0_8 (tw_82 hw) Via.refl (Or.inl (tw_83 hw)) (tw_61 hw) (ty := (.array (.object "java/lang/Object"))) (by decide) rfl rfl (F3.other W1 (Or.inr (Ne.symm s13))) E1 (by simp) ?_
  intro h2 W2
  refine o_0b rfl d_ai0_11 rfl rfl ?_
  exact ⟨(Keep.of_wr W1).wr W2 (Or.inl (List.mem_singleton.mpr rfl)), E1.wr W2, ⟨0, (F1.same W1).other W2 (Or.inr s13)⟩, (F2.other W1 (Or.inr (Ne.symm s12))).other W2 (Or.inr s23), (F3.other W1 (Or.inr (Ne.symm s13))).same W2, by decide, Or.inl ⟨rfl, rfl⟩⟩
theorem d_asz_0 : decode Bn85 0 = .ok (.aload_n 0, 1) := by decide +kernel
theorem d_asz_1 : decode Bn85 1 = .ok (.getfield 48, 3) := by decide +kernel
theorem d_asz_4 : decode Bn85 4 = .ok (.ireturn, 1) := by decide +kernel
abbrev M_asz : o_7 := (Yn8, jdk_38_method_8_code, 1, (Option.some FieldType.int), ({ frames := 0, cells := 0, slots := 0, locals := 0 } : Room))
theorem pn_asz : plainFor (o_7.y M_asz) = true := plainFor_of_name (by first | (simp [plainName, overriddenIn]; done) | decide +kernel)
theorem c_asz (K : o_b) (a0 : Array Value) (hw : ∀ d ∈ tables_1, d.before a0 K.Z = true) (D l e : Addr) (xs : List Value) (h : Heap) (L : o_0s K.Z h D l e xs) : o_9 K M_asz #[.ref l] [] h (o_c fun w h' _ => w = .int xs.length.toInt32 ∧ h' = h) := by
  obtain ⟨f1, -, f3, -⟩ := L
  refine o_x (M := M_asz) pn_asz rfl (by first | rfl | exact o_5 (by assumption)) ?_
  refine o_1 (pc' := 1) rfl d_asz_0 rfl (by first | rfl | assumption) ?_
  refine o_q (pc' := 4) rfl d_asz_1 (tw_167 hw) Via.refl f3 ?_
  refine o_00 rfl d_asz_4 rfl rfl ?_
  exact ⟨rfl, rfl⟩
theorem d_oci_0 : decode Bn79 0 = .ok (.iload_n 0, 1) := by decide +kernel
theorem d_oci_1 : decode Bn79 1 = .ok (.iload_n 1, 1) := by decide +kernel
theorem d_oci_2 : decode Bn79 2 = .ok (.aconst_null, 1) := by decide +kernel
theorem d_oci_3 : decode Bn79 3 = .ok (.invokestatic 105, 3) := by decide +kernel
theorem d_oci_6 : decode Bn79 6 = .ok (.ireturn, 1) := by decide +kernel
abbrev M_oci : o_7 := (Yn58, jdk_31_method_17_code, 2, (Option.some FieldType.int), ({ frames := 1, cells := 0, slots := 0, locals := 14 } : Room))
theorem pn_oci : plainFor (o_7.y M_oci) = true := plainFor_of_name (by first | (simp [plainName, overriddenIn]; done) | decide +kernel)
theorem c_oci (K : o_b) (a0 : Array Value) (hw : ∀ d ∈ tables_1, d.before a0 K.Z = true) (i n : Int32) (h : Heap) (h0 : 0 ≤ i.toInt) (h1 : i.toInt < n.toInt) : o_9 K M_oci #[.int i, .int n] [] h (o_c fun w h' _ => w = .int i ∧ h' = h) := by
  refine o_08 (M := M_oci) pn_oci rfl (by first | rfl | exact o_5 (by assumption)) (by first | rfl | exact o_5 (by assumption)) ?_
  refine o_2 (pc' := 1) rfl d_oci_0 rfl ?_
  refine o_2 (pc' := 2) rfl d_oci_1 rfl ?_
  refine o_1c (pc' := 3) rfl d_oci_2 ?_
  refine o_13 (M' := M_pci) d_oci_3 (pc' := 6) rfl (o_0 hw 300 rfl) (o_0 hw 301 rfl) (tw_302 hw) (o_0 hw 303 rfl) (by decide) rfl (o_6 pd_15 rfl) rfl rfl rfl rfl (c_pci K a0 hw .null rfl i n h h0 h1) (by simp) ?_
  rintro w h1 xs1 ⟨rfl, rfl⟩
  refine o_00 rfl d_oci_6 rfl rfl ?_
  exact ⟨rfl, rfl⟩
theorem d_aed_0 : decode Bn80 0 = .ok (.aload_n 0, 1) := by decide +kernel
theorem d_aed_1 : decode Bn80 1 = .ok (.getfield 9, 3) := by decide +kernel
theorem d_aed_4 : decode Bn80 4 = .ok (.iload_n 1, 1) := by decide +kernel
theorem d_aed_5 : decode Bn80 5 = .ok (.aaload, 1) := by decide +kernel
theorem d_aed_6 : decode Bn80 6 = .ok (.areturn, 1) := by decide +kernel
abbrev M_aed : o_7 := (Yn59, jdk_38_method_18_code, 2, (Option.some (FieldType.object "java/lang/Object")), ({ frames := 0, cells := 0, slots := 0, locals := 0 } : Room))
theorem pn_aed : plainFor (o_7.y M_aed) = true := plainFor_of_name (by first | (simp [plainName, overriddenIn]; done) | decide +kernel)
theorem c_aed (K : o_b) (a0 : Array Value) (hw : ∀ d ∈ tables_1, d.before a0 K.Z = true) (D l e : Addr) (xs : List Value) (i : Int32) (I : Nat) (v : Value) (h : Heap) (L : o_0s K.Z h D l e xs) (hi : i.toInt = I) (hv : xs[I]? = some v) (hr : v.isRef = true) : o_9 K M_aed #[.ref l, .int i] [] h (o_c fun w h' _ => w = v ∧ h' = h) := by
  obtain ⟨f1, -, f3, f4, f5, f6⟩ := L
  have hI := (List.getElem?_eq_some_iff.mp hv).1
  obtain ⟨z1, z2⟩ : e ≠ D ∧ o_02 K.Z h e o_0m (xs ++ List.replicate (10 - xs.length) .null) := f6.elim (fun z => by rw [z.2] at hI; exact absurd hI (Nat.not_lt_zero _)) id
  refine o_08 (M := M_aed) pn_aed rfl (by first | rfl | exact o_5 (by assumption)) (by first | rfl | exact o_5 (by assumption)) ?_
  refine o_1 (pc' := 1) rfl d_aed_0 rfl (by first | rfl | assumption) ?_
  refine o_q (pc' := 4) rfl d_aed_1 (tw_82 hw) Via.refl f4 ?_
  refine o_2 (pc' := 5) rfl d_aed_4 rfl ?_
  refine o_15 (pc' := 6) rfl d_aed_5 rfl z2.ary (i := I) hi (by rw [List.getElem?_append_left hI]; exact hv) ?_
  refine o_i rfl rfl hr d_aed_6 rfl rfl ?_
  exact ⟨rfl, rfl⟩
theorem d_agt_0 : decode Bn39 0 = .ok (.iload_n 1, 1) := by decide +kernel
theorem d_agt_1 : decode Bn39 1 = .ok (.aload_n 0, 1) := by decide +kernel
theorem d_agt_2 : decode Bn39 2 = .ok (.getfield 48, 3) := by decide +kernel
theorem d_agt_5 : decode Bn39 5 = .ok (.invokestatic 118, 3) := by decide +kernel
theorem d_agt_8 : decode Bn39 8 = .ok (.pop, 1) := by decide +kernel
theorem d_agt_9 : decode Bn39 9 = .ok (.aload_n 0, 1) := by decide +kernel
theorem d_agt_10 : decode Bn39 10 = .ok (.iload_n 1, 1) := by decide +kernel
theorem d_agt_11 : decode Bn39 11 = .ok (.invokevirtual 123, 3) := by decide +kernel
theorem d_agt_14 : decode Bn39 14 = .ok (.areturn, 1) := by decide +kernel
abbrev M_agt : o_7 := (Yn12, jdk_38_method_20_code, 2, (Option.some (FieldType.object "java/lang/Object")), ({ frames := 2, cells := 0, slots := 0, locals := 28 } : Room))
theorem pn_agt : plainFor (o_7.y M_agt) = true := plainFor_of_name (by first | (simp [plainName, overriddenIn]; done) | decide +kernel)
theorem c_agt (K : o_b) (a0 : Array Value) (hw : ∀ d ∈ tables_1, d.before a0 K.Z = true) (D l e : Addr) (xs : List Value) (i : Int32) (I : Nat) (v : Value) (h : Heap) (L : o_0s K.Z h D l e xs) (hi : i.toInt = I) (hv : xs[I]? = some v) (hr : v.isRef = true) : o_9 K M_agt #[.ref l, .int i] [] h (o_c fun w h' _ => w = v ∧ h' = h) := by
  have hI := (List.getElem?_eq_some_iff.mp hv).1
  have hl := L.2.2.2.2.1
  have hn : (xs.length.toInt32).toInt = xs.length := o_0o _ (by omega)
  refine o_08 (M := M_agt) pn_agt rfl (by first | rfl | exact o_5 (by assumption)) (by first | rfl | exact o_5 (by assumption)) ?_
  refine o_2 (pc' := 1) rfl d_agt_0 rfl ?_
  refine o_1 (pc' := 2) rfl d_agt_1 rfl (by first | rfl | assumption) ?_
  refine o_q (pc' := 5) rfl d_agt_2 (tw_167 hw) Via.refl L.2.2.1 ?_
  refine o_0n (M' := M_oci) d_agt_5 (pc' := 8) rfl (o_0 hw 297 rfl) (o_0 hw 298 rfl) (tw_111 hw) (o_0 hw 299 rfl) (by decide) rfl (o_6 pd_16 rfl) rfl rfl rfl rfl (c_oci K a0 hw i _ h (by omega) (by omega)) (by simp) ?_
  rintro w h1 xs1 ⟨rfl, rfl⟩
  refine o_28 (pc' := 9) rfl d_agt_8 (by first | rfl | assumption) ?_
  refine o_1 (pc' := 10) rfl d_agt_9 rfl (by first | rfl | assumption) ?_
  refine o_2 (pc' := 11) rfl d_agt_10 rfl ?_
  refine o_0l (M' := M_aed) d_agt_11 (pc' := 14) rfl (o_0 hw 304 rfl) (o_0 hw 305 rfl) (o_0 hw 307 rfl) (o_0 hw 306 rfl) (tw_62 hw) (o_0 hw 308 rfl) (by decide) rfl (o_6 pd_17 rfl) rfl rfl rfl rfl L.1 (c_aed K a0 hw D l e xs i I v _ L hi hv hr) (by simp) ?_
  rintro w h2 xs2 ⟨rfl, rfl⟩
  refine o_i rfl rfl hr d_agt_14 rfl rfl ?_
  exact ⟨rfl, rfl⟩
theorem d_agr_0 : decode Bn17 0 = .ok (.aload_n 0, 1) := by decide +kernel
theorem d_agr_1 : decode Bn17 1 = .ok (.getfield 9, 3) := by decide +kernel
theorem d_agr_4 : decode Bn17 4 = .ok (.arraylength, 1) := by decide +kernel
theorem d_agr_5 : decode Bn17 5 = .ok (.istore_n 2, 1) := by decide +kernel
theorem d_agr_6 : decode Bn17 6 = .ok (.iload_n 2, 1) := by decide +kernel
theorem d_agr_7 : decode Bn17 7 = .ok (.ifCond .gt 13, 3) := by decide +kernel
theorem d_agr_10 : decode Bn17 10 = .ok (.aload_n 0, 1) := by decide +kernel
theorem d_agr_11 : decode Bn17 11 = .ok (.getfield 9, 3) := by decide +kernel
theorem d_agr_14 : decode Bn17 14 = .ok (.getstatic 39, 3) := by decide +kernel
theorem d_agr_17 : decode Bn17 17 = .ok (.if_acmp .eq 28, 3) := by decide +kernel
theorem d_agr_45 : decode Bn17 45 = .ok (.aload_n 0, 1) := by decide +kernel
theorem d_agr_46 : decode Bn17 46 = .ok (.bipush 10, 2) := by decide +kernel
theorem d_agr_48 : decode Bn17 48 = .ok (.iload_n 1, 1) := by decide +kernel
theorem d_agr_49 : decode Bn17 49 = .ok (.invokestatic 79, 3) := by decide +kernel
theorem d_agr_52 : decode Bn17 52 = .ok (.anewarray 7, 3) := by decide +kernel
theorem d_agr_55 : decode Bn17 55 = .ok (.dup_x1, 1) := by decide +kernel
theorem d_agr_56 : decode Bn17 56 = .ok (.putfield 9, 3) := by decide +kernel
theorem d_agr_59 : decode Bn17 59 = .ok (.areturn, 1) := by decide +kernel
abbrev M_agr : o_7 := (Yn42, jdk_38_method_6_code, 4, (Option.some (FieldType.array (FieldType.object "java/lang/Object"))), ({ frames := 1, cells := 1, slots := 10, locals := 14 } : Room))
theorem pn_agr : plainFor (o_7.y M_agr) = true := plainFor_of_name (by first | (simp [plainName, overriddenIn]; done) | decide +kernel)
theorem c_agr (K : o_b) (a0 : Array Value) (hw : ∀ d ∈ tables_1, d.before a0 K.Z = true) (D : Addr) (SD : Sta K.Z K.Z.heap o_0r "DEFAULTCAPACITY_EMPTY_ELEMENTDATA" o_11 (.ref D)) (l : Addr) (h : Heap) (AD : o_g K.Z h D (.object o_0m) []) (E : Exa K.Z h l o_0r) (F : Fld K.Z h l o_0r "elementData" o_11 (.ref D)) :
    o_9 K M_agr #[.ref l, .int 1] [l] h (o_c fun w h' xs => ∃ (e : Addr) (h1 : Heap), w = .ref e ∧ Ext h h1 ∧ h.size ≤ e ∧ e ∈ xs ∧ o_02 K.Z h1 e o_0m (List.replicate 10 .null) ∧ Wr h1 h' l (RoadKit.slotOf K.Z o_0r "elementData" o_11) (.ref e)) := by
  refine o_86 (M := M_agr) pn_agr rfl (by first | rfl | exact o_5 (by assumption)) (by first | rfl | exact o_5 (by assumption)) ?_
  refine o_1 (pc' := 1) rfl d_agr_0 rfl (by first | rfl | assumption) ?_
  refine o_q (pc' := 4) rfl d_agr_1 (tw_82 hw) Via.refl F ?_
  refine o_01 (z := 0) (pc' := 5) rfl d_agr_4 AD rfl ?_
  refine o_2s (pc' := 6) rfl d_agr_5 (by first | exact One.u | exact One.val rfl | assumption | exact One.val (by assumption)) ?_
  refine o_2 (pc' := 7) rfl d_agr_6 rfl ?_
  refine o_9m (pcT := 20) (pcF := 10) d_agr_7 (by decide) (by decide) rfl (fun q => ?_) (fun q => ?_)
  · exact absurd q (by decide)
  refine o_1 (pc' := 11) rfl d_agr_10 rfl (by first | rfl | assumption) ?_
  refine o_q (pc' := 14) rfl d_agr_11 (tw_82 hw) Via.refl F ?_
  refine o_2o (pc' := 17) rfl d_agr_14 (tw_81 hw) Via.refl SD ?_
  refine o_4t (pcT := 45) (pcF := 20) d_agr_17 (by decide) (by decide) rfl (by first | rfl | assumption) (by first | rfl | assumption) (fun q2 => ?_) (fun q2 => ?_)
  rotate_left 1
  · exact absurd rfl q2
  refine o_1 (pc' := 46) rfl d_agr_45 rfl (by first | rfl | assumption) ?_
  refine o_u (v := (10 : Int32)) (pc' := 48) rfl d_agr_46 rfl ?_
  refine o_2 (pc' := 49) rfl d_agr_48 rfl ?_
  refine o_0n (M' := M_mmx) d_agr_49 (pc' := 52) rfl (o_0 hw 279 rfl) (tw_280 hw) (tw_281 hw) (tw_282 hw) (by decide) rfl (o_6 pd_16 rfl) rfl rfl rfl rfl (c_mmx K a0 hw 10 1 h) (by simp) ?_
  rintro w h1 xs1 ⟨r, rfl, hr, rfl⟩
  obtain rfl : r = 10 := by
    rcases hr with ⟨z, rfl⟩ | ⟨z, rfl⟩
    · exact absurd z (by decide)
    · rfl
  refine o_37 (pc' := 55) rfl d_agr_52 (o_0 hw 283 rfl) (tw_284 hw) (N := 10) (cap := 10) (by decide) (by decide) rfl rfl rfl ?_
  intro e h2 ee E2 R2
  refine o_6f (pc' := 56) rfl d_agr_55 rfl rfl ?_
  refine o_06 (pc' := 59) rfl d_agr_56 (tw_82 hw) Via.refl (Or.inl (tw_83 hw)) (tw_61 hw) (ty := (.array (.object "java/lang/Object"))) (by decide) rfl rfl (F.ext E2) (E.ext E2) (by simp) ?_
  intro h3 W3
  refine o_i rfl rfl (by first | rfl | assumption) d_agr_59 rfl rfl ?_
  exact ⟨e, h2, rfl, E2, by omega, by simp, R2, W3⟩
theorem d_ag0_0 : decode Bn53 0 = .ok (.aload_n 0, 1) := by decide +kernel
theorem d_ag0_1 : decode Bn53 1 = .ok (.aload_n 0, 1) := by decide +kernel
theorem d_ag0_2 : decode Bn53 2 = .ok (.getfield 48, 3) := by decide +kernel
theorem d_ag0_5 : decode Bn53 5 = .ok (.iconst 1, 1) := by decide +kernel
theorem d_ag0_6 : decode Bn53 6 = .ok (.iadd, 1) := by decide +kernel
theorem d_ag0_7 : decode Bn53 7 = .ok (.invokevirtual 69, 3) := by decide +kernel
theorem d_ag0_10 : decode Bn53 10 = .ok (.areturn, 1) := by decide +kernel
abbrev M_ag0 : o_7 := (Yn41, jdk_38_method_7_code, 1, (Option.some (FieldType.array (FieldType.object "java/lang/Object"))), ({ frames := 2, cells := 1, slots := 10, locals := 30 } : Room))
theorem pn_ag0 : plainFor (o_7.y M_ag0) = true := plainFor_of_name (by first | (simp [plainName, overriddenIn]; done) | decide +kernel)
theorem c_ag0 (K : o_b) (a0 : Array Value) (hw : ∀ d ∈ tables_1, d.before a0 K.Z = true) (D : Addr) (SD : Sta K.Z K.Z.heap o_0r "DEFAULTCAPACITY_EMPTY_ELEMENTDATA" o_11 (.ref D)) (l : Addr) (h : Heap) (AD : o_g K.Z h D (.object o_0m) []) (E : Exa K.Z h l o_0r) (F : Fld K.Z h l o_0r "elementData" o_11 (.ref D)) (G : Fld K.Z h l o_0r "size" "I" (.int 0)) :
    o_9 K M_ag0 #[.ref l] [l] h (o_c fun w h' xs => ∃ (e : Addr) (h1 : Heap), w = .ref e ∧ Ext h h1 ∧ h.size ≤ e ∧ e ∈ xs ∧ o_02 K.Z h1 e o_0m (List.replicate 10 .null) ∧ Wr h1 h' l (RoadKit.slotOf K.Z o_0r "elementData" o_11) (.ref e)) := by
  refine o_x (M := M_ag0) pn_ag0 rfl (by first | rfl | exact o_5 (by assumption)) ?_
  refine o_1 (pc' := 1) rfl d_ag0_0 rfl (by first | rfl | assumption) ?_
  refine o_1 (pc' := 2) rfl d_ag0_1 rfl (by first | rfl | assumption) ?_
  refine o_q (pc' := 5) rfl d_ag0_2 (tw_167 hw) Via.refl G ?_
  refine o_4 (v := (1 : Int32)) (pc' := 6) rfl d_ag0_5 rfl ?_
  refine o_0h (pc' := 7) rfl d_ag0_6 ?_
  refine o_0l (M' := M_agr) d_ag0_7 (pc' := 10) rfl (o_0 hw 274 rfl) (o_6e (tw_275 hw) (tw_278 hw)) (o_0 hw 277 rfl) (tw_275 hw) (tw_62 hw) (tw_278 hw) (by decide) rfl (o_6 pd_18 rfl) rfl rfl rfl rfl E (c_agr K a0 hw D SD l h AD E F) (by simp) ?_
  rintro w h1 xs1 ⟨e, h0, rfl, q⟩
  refine o_i rfl rfl (by first | rfl | assumption) d_ag0_10 rfl rfl ?_
  exact ⟨e, h0, rfl, q.1, q.2.1, by simp [q.2.2.1], q.2.2.2⟩
/-- what an add may write -/
def o_1n (D l e : Addr) : List Addr := if e = D then [l] else [l, e]
theorem o_80 {D l e : Addr} : l ∈ o_1n D l e := by unfold o_1n; split <;> simp
theorem o_1u {D l e : Addr} {L : List Addr} (h1 : l ∈ L) (h2 : e ≠ D → e ∈ L) : ∀ z ∈ o_1n D l e, z ∈ L := by
  intro z hz
  unfold o_1n at hz
  split at hz
  · cases List.mem_singleton.mp hz; exact h1
  · rename_i q
    simp only [List.mem_cons, List.not_mem_nil, or_false] at hz
    rcases hz with rfl | rfl
    · exact h1
    · exact h2 q
theorem o_31 {D l e x : Addr} (h1 : x ≠ l) (h2 : e ≠ D → x ≠ e) : x ∉ o_1n D l e := by
  unfold o_1n
  split
  · exact ninS h1 nin0
  · rename_i q
    exact ninS h1 (ninS (h2 q) nin0)
theorem o_7m {xs : List Value} {y : Value} (q : xs.length < 10) : (xs ++ List.replicate (10 - xs.length) Value.null).set xs.length y = (xs ++ [y]) ++ List.replicate (10 - (xs ++ [y]).length) .null := by
  have e := o_6h xs Value.null y (9 - xs.length)
  rw [show 9 - xs.length + 1 = 10 - xs.length by omega] at e
  rw [e, show 10 - (xs ++ [y]).length = 9 - xs.length by rw [List.length_append, List.length_singleton]; omega]
theorem d_ad3_0 : decode Bn19 0 = .ok (.iload_n 3, 1) := by decide +kernel
theorem d_ad3_1 : decode Bn19 1 = .ok (.aload_n 2, 1) := by decide +kernel
theorem d_ad3_2 : decode Bn19 2 = .ok (.arraylength, 1) := by decide +kernel
theorem d_ad3_3 : decode Bn19 3 = .ok (.if_icmp .ne 8, 3) := by decide +kernel
theorem d_ad3_6 : decode Bn19 6 = .ok (.aload_n 0, 1) := by decide +kernel
theorem d_ad3_7 : decode Bn19 7 = .ok (.invokevirtual 129, 3) := by decide +kernel
theorem d_ad3_10 : decode Bn19 10 = .ok (.astore_n 2, 1) := by decide +kernel
theorem d_ad3_11 : decode Bn19 11 = .ok (.aload_n 2, 1) := by decide +kernel
theorem d_ad3_12 : decode Bn19 12 = .ok (.iload_n 3, 1) := by decide +kernel
theorem d_ad3_13 : decode Bn19 13 = .ok (.aload_n 1, 1) := by decide +kernel
theorem d_ad3_14 : decode Bn19 14 = .ok (.aastore, 1) := by decide +kernel
theorem d_ad3_15 : decode Bn19 15 = .ok (.aload_n 0, 1) := by decide +kernel
theorem d_ad3_16 : decode Bn19 16 = .ok (.iload_n 3, 1) := by decide +kernel
theorem d_ad3_17 : decode Bn19 17 = .ok (.iconst 1, 1) := by decide +kernel
theorem d_ad3_18 : decode Bn19 18 = .ok (.iadd, 1) := by decide +kernel
theorem d_ad3_19 : decode Bn19 19 = .ok (.putfield 48, 3) := by decide +kernel
theorem d_ad3_22 : decode Bn19 22 = .ok (.return_, 1) := by decide +kernel
abbrev M_ad3 : o_7 := (Yn40, jdk_38_method_24_code, 4, (Option.none : Option FieldType), ({ frames := 3, cells := 1, slots := 10, locals := 46 } : Room))
theorem pn_ad3 : plainFor (o_7.y M_ad3) = true := plainFor_of_name (by first | (simp [plainName, overriddenIn]; done) | decide +kernel)
theorem c_ad3 (K : o_b) (a0 : Array Value) (hw : ∀ d ∈ tables_1, d.before a0 K.Z = true) (D : Addr) (SD : Sta K.Z K.Z.heap o_0r "DEFAULTCAPACITY_EMPTY_ELEMENTDATA" o_11 (.ref D)) (l e y : Addr) (xs : List Value) (h : Heap) (AD : o_g K.Z h D (.object o_0m) []) (L : o_0s K.Z h D l e xs) (I : Ins K.Z h y o_0m true) (hx : xs.length < 10) (hle : e ≠ D → e ≠ l) :
    o_9 K M_ad3 #[.ref l, .ref y, .ref e, .int xs.length.toInt32] (o_1n D l e) h (o_09 fun h' ys => Keep h h' (o_1n D l e) ∧ ∃ e' : Addr, ((e' = e ∧ e ≠ D) ∨ (e' ∈ ys ∧ h.size ≤ e')) ∧ o_0s K.Z h' D l e' (xs ++ [.ref y])) := by
  obtain ⟨s12, s13, s23⟩ := o_5i hw
  have v1 : (1 : Int32).toInt = 1 := rfl
  obtain ⟨f1, ⟨mc, f2⟩, f3, f4, f5, f6⟩ := L
  have ll : @LT.lt Nat _ _ _ := f1.lt
  have hn : (xs.length.toInt32).toInt = xs.length := o_0o _ (by omega)
  have e1 : xs.length.toInt32 + 1 = (xs ++ [Value.ref y]).length.toInt32 := by
    apply Int32.toInt_inj.mp
    rw [o_20 hn v1 (by omega) (by omega), List.length_append, List.length_singleton, o_0o _ (by omega)]
    omega
  rcases f6 with ⟨hD, hxs⟩ | ⟨hD, R⟩
  · subst hxs
    have ew : o_1n D l e = [l] := if_pos hD
    rw [ew]
    rw [hD] at f4 ⊢
    have lD : @LT.lt Nat _ _ _ := AD.lt
    refine o_3g (M := M_ad3) pn_ad3 rfl (by first | rfl | exact o_5 (by assumption)) (by first | rfl | exact o_5 (by assumption)) (by first | rfl | exact o_5 (by assumption)) (by first | rfl | exact o_5 (by assumption)) ?_
    refine o_2 (pc' := 1) rfl d_ad3_0 rfl ?_
    refine o_1 (pc' := 2) rfl d_ad3_1 rfl (by first | rfl | assumption) ?_
    refine o_01 (z := 0) (pc' := 3) rfl d_ad3_2 AD rfl ?_
    refine o_07 (pcT := 11) (pcF := 6) d_ad3_3 (by decide) (by decide) rfl (fun q => ?_) (fun q => ?_)
    · exact absurd rfl q
    refine o_1 (pc' := 7) rfl d_ad3_6 rfl (by first | rfl | assumption) ?_
    refine o_0p (M' := M_ag0) d_ad3_7 (pc' := 10) rfl (o_0 hw 269 rfl) (o_6e (tw_270 hw) (tw_273 hw)) (o_0 hw 272 rfl) (tw_270 hw) (tw_62 hw) (tw_273 hw) (by decide) rfl (o_6 pd_19 rfl) rfl rfl rfl rfl f1 (c_ag0 K a0 hw D SD l h AD f1 f4 f3) (by simp) ?_
    rintro w h1 ys1 ⟨e', h0, rfl, E0, he, hey, R0, W0⟩
    have nel : e' ≠ l := o_4k (by omega)
    have neD : e' ≠ D := o_4k (by omega)
    refine o_23 (pc' := 11) rfl d_ad3_10 (by first | exact One.u | exact One.val rfl | assumption | exact One.val (by assumption)) (by first | rfl | assumption) ?_
    refine o_1 (pc' := 12) rfl d_ad3_11 rfl (by first | rfl | assumption) ?_
    refine o_2 (pc' := 13) rfl d_ad3_12 rfl ?_
    refine o_1 (pc' := 14) rfl d_ad3_13 rfl (by first | rfl | assumption) ?_
    refine o_2c (pc' := 15) rfl d_ad3_14 (R0.other W0 nel) (i := 0) rfl (by simp) ((I.ext E0).wr W0) (by simp [hey]) ?_
    intro h2 k2 R2
    have nl : l ∉ [e'] := ninS (Ne.symm nel) nin0
    refine o_1 (pc' := 16) rfl d_ad3_15 rfl (by first | rfl | assumption) ?_
    refine o_2 (pc' := 17) rfl d_ad3_16 rfl ?_
    refine o_4 (v := (1 : Int32)) (pc' := 18) rfl d_ad3_17 rfl ?_
    refine o_0h (pc' := 19) rfl d_ad3_18 ?_
    refine o_06 (pc' := 22) rfl d_ad3_19 (tw_167 hw) Via.refl (Or.inl (tw_168 hw)) (tw_61 hw) (ty := .int) (by decide) rfl rfl (((f3.ext E0).other W0 (Or.inr s23)).keep k2 nl) (((f1.ext E0).wr W0).keep k2) (by simp) ?_
    intro h3 W3
    refine o_0b rfl d_ad3_22 rfl rfl ?_
    have kk := (((Keep.refl h [l]).ext E0).wr W0 (Or.inl (List.mem_singleton.mpr rfl))).trans k2 (fun z hz => Or.inr (by cases List.mem_singleton.mp hz; exact he))
    refine ⟨kk.wr W3 (Or.inl (List.mem_singleton.mpr rfl)), e', Or.inr ⟨by simp [hey], he⟩, (((f1.ext E0).wr W0).keep k2).wr W3, ⟨mc, (((f2.ext E0).other W0 (Or.inr s13)).keep k2 nl).other W3 (Or.inr s12)⟩, (((f3.ext E0).other W0 (Or.inr s23)).keep k2 nl).same W3, (((f4.ext E0).same W0).keep k2 nl).other W3 (Or.inr (Ne.symm s23)), by simp, Or.inr ⟨neD, R2.other W3 nel⟩⟩
  · have ew : o_1n D l e = [l, e] := if_neg hD
    rw [ew]
    have nel := hle hD
    have hz : ((10 : Nat).toInt32).toInt = ((10 : Nat) : Int) := rfl
    have hl10 : (xs ++ List.replicate (10 - xs.length) Value.null).length = 10 := by rw [List.length_append, List.length_replicate]; omega
    refine o_3g (M := M_ad3) pn_ad3 rfl (by first | rfl | exact o_5 (by assumption)) (by first | rfl | exact o_5 (by assumption)) (by first | rfl | exact o_5 (by assumption)) (by first | rfl | exact o_5 (by assumption)) ?_
    refine o_2 (pc' := 1) rfl d_ad3_0 rfl ?_
    refine o_1 (pc' := 2) rfl d_ad3_1 rfl (by first | rfl | assumption) ?_
    refine o_01 (z := 10) (pc' := 3) rfl d_ad3_2 R.ary (by rw [hl10]; rfl) ?_
    refine o_07 (pcT := 11) (pcF := 6) d_ad3_3 (by decide) (by decide) rfl (fun q => ?_) (fun q => ?_)
    rotate_left 1
    · exfalso
      rw [q] at hn
      have : (10 : Int32).toInt = 10 := rfl
      omega
    refine o_1 (pc' := 12) rfl d_ad3_11 rfl (by first | rfl | assumption) ?_
    refine o_2 (pc' := 13) rfl d_ad3_12 rfl ?_
    refine o_1 (pc' := 14) rfl d_ad3_13 rfl (by first | rfl | assumption) ?_
    refine o_2c (pc' := 15) rfl d_ad3_14 R (i := xs.length) hn (by rw [hl10]; omega) I (by simp) ?_
    intro h2 k2 R2
    rw [o_7m hx] at R2
    have nl : l ∉ [e] := ninS (Ne.symm nel) nin0
    refine o_1 (pc' := 16) rfl d_ad3_15 rfl (by first | rfl | assumption) ?_
    refine o_2 (pc' := 17) rfl d_ad3_16 rfl ?_
    refine o_4 (v := (1 : Int32)) (pc' := 18) rfl d_ad3_17 rfl ?_
    refine o_0h (pc' := 19) rfl d_ad3_18 ?_
    rw [e1]
    refine o_06 (pc' := 22) rfl d_ad3_19 (tw_167 hw) Via.refl (Or.inl (tw_168 hw)) (tw_61 hw) (ty := .int) (by decide) rfl rfl (f3.keep k2 nl) (f1.keep k2) (by simp) ?_
    intro h3 W3
    refine o_0b rfl d_ad3_22 rfl rfl ?_
    have kk := (Keep.refl h [l, e]).trans k2 (fun z hz => Or.inl (by cases List.mem_singleton.mp hz; simp))
    refine ⟨kk.wr W3 (Or.inl (by simp)), e, Or.inl ⟨rfl, hD⟩, (f1.keep k2).wr W3, ⟨mc, (f2.keep k2 nl).other W3 (Or.inr s12)⟩, (f3.keep k2 nl).same W3, (f4.keep k2 nl).other W3 (Or.inr (Ne.symm s23)), by rw [List.length_append, List.length_singleton]; omega, Or.inr ⟨hD, R2.other W3 nel⟩⟩
theorem d_add_0 : decode Bn23 0 = .ok (.aload_n 0, 1) := by decide +kernel
theorem d_add_1 : decode Bn23 1 = .ok (.dup, 1) := by decide +kernel
theorem d_add_2 : decode Bn23 2 = .ok (.getfield 63, 3) := by decide +kernel
theorem d_add_5 : decode Bn23 5 = .ok (.iconst 1, 1) := by decide +kernel
theorem d_add_6 : decode Bn23 6 = .ok (.iadd, 1) := by decide +kernel
theorem d_add_7 : decode Bn23 7 = .ok (.putfield 63, 3) := by decide +kernel
theorem d_add_10 : decode Bn23 10 = .ok (.aload_n 0, 1) := by decide +kernel
theorem d_add_11 : decode Bn23 11 = .ok (.aload_n 1, 1) := by decide +kernel
theorem d_add_12 : decode Bn23 12 = .ok (.aload_n 0, 1) := by decide +kernel
theorem d_add_13 : decode Bn23 13 = .ok (.getfield 9, 3) := by decide +kernel
theorem d_add_16 : decode Bn23 16 = .ok (.aload_n 0, 1) := by decide +kernel
theorem d_add_17 : decode Bn23 17 = .ok (.getfield 48, 3) := by decide +kernel
theorem d_add_20 : decode Bn23 20 = .ok (.invokevirtual 131, 3) := by decide +kernel
theorem d_add_23 : decode Bn23 23 = .ok (.iconst 1, 1) := by decide +kernel
theorem d_add_24 : decode Bn23 24 = .ok (.ireturn, 1) := by decide +kernel
abbrev M_add : o_7 := (Yn11, jdk_38_method_25_code, 2, (Option.some FieldType.boolean), ({ frames := 4, cells := 1, slots := 10, locals := 65 } : Room))
theorem pn_add : plainFor (o_7.y M_add) = true := plainFor_of_name (by first | (simp [plainName, overriddenIn]; done) | decide +kernel)
theorem c_add (K : o_b) (a0 : Array Value) (hw : ∀ d ∈ tables_1, d.before a0 K.Z = true) (D : Addr) (SD : Sta K.Z K.Z.heap o_0r "DEFAULTCAPACITY_EMPTY_ELEMENTDATA" o_11 (.ref D)) (l e y : Addr) (xs : List Value) (h : Heap) (AD : o_g K.Z h D (.object o_0m) []) (L : o_0s K.Z h D l e xs) (I : Ins K.Z h y o_0m true) (hx : xs.length < 10) (hle : e ≠ D → e ≠ l) (hdl : D ≠ l) :
    o_9 K M_add #[.ref l, .ref y] (o_1n D l e) h (o_c fun w h' ys => w = .int 1 ∧ Keep h h' (o_1n D l e) ∧ ∃ e' : Addr, ((e' = e ∧ e ≠ D) ∨ (e' ∈ ys ∧ h.size ≤ e')) ∧ o_0s K.Z h' D l e' (xs ++ [.ref y])) := by
  obtain ⟨s12, s13, s23⟩ := o_5i hw
  have L' := L
  obtain ⟨f1, ⟨mc, f2⟩, f3, f4, f5, f6⟩ := L
  refine o_08 (M := M_add) pn_add rfl (by first | rfl | exact o_5 (by assumption)) (by first | rfl | exact o_5 (by assumption)) ?_
  refine o_1 (pc' := 1) rfl d_add_0 rfl (by first | rfl | assumption) ?_
  refine o_0a (pc' := 2) rfl d_add_1 (by first | rfl | assumption) ?_
  refine o_q (pc' := 5) rfl d_add_2 (tw_262 hw) (Via.of (tw_263 hw)) f2 ?_
  refine o_4 (v := (1 : Int32)) (pc' := 6) rfl d_add_5 rfl ?_
  refine o_0h (pc' := 7) rfl d_add_6 ?_
  refine o_06 (pc' := 10) rfl d_add_7 (tw_262 hw) (Via.of (tw_263 hw)) (Or.inl (tw_80 hw)) (tw_61 hw) (ty := .int) (by decide) rfl rfl f2 f1 o_80 ?_
  intro h1 W1
  have L1 : o_0s K.Z h1 D l e xs := ⟨f1.wr W1, ⟨_, f2.same W1⟩, f3.other W1 (Or.inr (Ne.symm s12)), f4.other W1 (Or.inr (Ne.symm s13)), f5, f6.imp id fun z => ⟨z.1, z.2.other W1 (hle z.1)⟩⟩
  refine o_1 (pc' := 11) rfl d_add_10 rfl (by first | rfl | assumption) ?_
  refine o_1 (pc' := 12) rfl d_add_11 rfl (by first | rfl | assumption) ?_
  refine o_1 (pc' := 13) rfl d_add_12 rfl (by first | rfl | assumption) ?_
  refine o_q (pc' := 16) rfl d_add_13 (tw_82 hw) Via.refl L1.2.2.2.1 ?_
  refine o_1 (pc' := 17) rfl d_add_16 rfl (by first | rfl | assumption) ?_
  refine o_q (pc' := 20) rfl d_add_17 (tw_167 hw) Via.refl L1.2.2.1 ?_
  refine o_74 (M' := M_ad3) d_add_20 (pc' := 23) rfl (o_0 hw 264 rfl) (o_6e (tw_265 hw) (tw_268 hw)) (o_0 hw 267 rfl) (tw_265 hw) (tw_62 hw) (tw_268 hw) (by decide) rfl (o_6 pd_20 rfl) rfl rfl rfl rfl L1.1 (c_ad3 K a0 hw D SD l e y xs h1 (AD.other W1 hdl) L1 (I.wr W1) hx hle) (fun z hz => hz) ?_
  rintro h2 ys2 ⟨k2, e', he', L2⟩
  refine o_4 (v := (1 : Int32)) (pc' := 24) rfl d_add_23 rfl ?_
  refine o_y (t := .boolean) rfl (by simp) (by first | exact o_0v | exact o_0w | rfl) d_add_24 rfl rfl ?_
  exact ⟨rfl, ((Keep.refl h (o_1n D l e)).wr W1 (Or.inl o_80)).trans k2 (fun z hz => Or.inl hz), e', he'.imp id fun z => ⟨by simp [z.1], Nat.le_trans (Nat.le_of_eq W1.size.symm) z.2⟩, L2⟩
theorem d_aie_0 : decode Bn64 0 = .ok (.aload_n 0, 1) := by decide +kernel
theorem d_aie_1 : decode Bn64 1 = .ok (.getfield 48, 3) := by decide +kernel
theorem d_aie_4 : decode Bn64 4 = .ok (.ifCond .ne 7, 3) := by decide +kernel
theorem d_aie_7 : decode Bn64 7 = .ok (.iconst 1, 1) := by decide +kernel
theorem d_aie_8 : decode Bn64 8 = .ok (.goto 4, 3) := by decide +kernel
theorem d_aie_11 : decode Bn64 11 = .ok (.iconst 0, 1) := by decide +kernel
theorem d_aie_12 : decode Bn64 12 = .ok (.ireturn, 1) := by decide +kernel
abbrev M_aie : o_7 := (Yn60, jdk_38_method_9_code, 1, (Option.some FieldType.boolean), ({ frames := 0, cells := 0, slots := 0, locals := 0 } : Room))
theorem pn_aie : plainFor (o_7.y M_aie) = true := plainFor_of_name (by first | (simp [plainName, overriddenIn]; done) | decide +kernel)
theorem c_aie (K : o_b) (a0 : Array Value) (hw : ∀ d ∈ tables_1, d.before a0 K.Z = true) (D l e : Addr) (xs : List Value) (h : Heap) (L : o_0s K.Z h D l e xs) : o_9 K M_aie #[.ref l] [] h (o_c fun w h' _ => w = .int (if xs.length = 0 then 1 else 0) ∧ h' = h) := by
  have hl := L.2.2.2.2.1
  have hn : (xs.length.toInt32).toInt = xs.length := o_0o _ (by omega)
  have v0 : (0 : Int32).toInt = 0 := rfl
  refine o_x (M := M_aie) pn_aie rfl (by first | rfl | exact o_5 (by assumption)) ?_
  refine o_1 (pc' := 1) rfl d_aie_0 rfl (by first | rfl | assumption) ?_
  refine o_q (pc' := 4) rfl d_aie_1 (tw_167 hw) Via.refl L.2.2.1 ?_
  refine o_0k (pcT := 11) (pcF := 7) d_aie_4 (by decide) (by decide) rfl (fun q => ?_) (fun q => ?_)
  · skip
    refine o_4 (v := (0 : Int32)) (pc' := 12) rfl d_aie_11 rfl ?_
    refine o_y (t := .boolean) rfl (by simp) (by first | exact o_0v | exact o_0w | rfl) d_aie_12 rfl rfl ?_
    exact ⟨by rw [if_neg]; intro z; exact q (Int32.toInt_inj.mp (by rw [hn, z]; rfl)), rfl⟩
  · skip
    refine o_4 (v := (1 : Int32)) (pc' := 8) rfl d_aie_7 rfl ?_
    refine o_o (pc' := 12) d_aie_8 (by decide) (by decide) ?_
    refine o_y (t := .boolean) rfl (by simp) (by first | exact o_0v | exact o_0w | rfl) d_aie_12 rfl rfl ?_
    exact ⟨by rw [if_pos]; rw [q, v0] at hn; omega, rfl⟩
/-! java.util.HashMap with String keys, one to a bucket (behind hash.wp, refs.wp) -/
abbrev o_0d : String := "java/util/HashMap"
abbrev o_16 : String := "java/util/HashMap$Node"
abbrev o_9e : String := "Ljava/util/HashMap$Node;"
abbrev o_4m : String := "[Ljava/util/HashMap$Node;"
abbrev o_0f : String := "Ljava/lang/Object;"
def o_21 (Z : State) (h : Heap) (n : Addr) (hv : Int32) (k v : Addr) : Prop := Exa Z h n o_16 ∧ Fld Z h n o_16 "hash" "I" (.int hv) ∧ Fld Z h n o_16 "key" o_0f (.ref k) ∧ Fld Z h n o_16 "value" o_0f (.ref v)
theorem o_21.ext {Z : State} {h h' : Heap} {n : Addr} {hv : Int32} {k v : Addr} (F : o_21 Z h n hv k v) (E : Ext h h') : o_21 Z h' n hv k v := ⟨F.1.ext E, F.2.1.ext E, F.2.2.1.ext E, F.2.2.2.ext E⟩
theorem o_21.keep {Z : State} {h h' : Heap} {n : Addr} {hv : Int32} {k v : Addr} {ws : List Addr} (F : o_21 Z h n hv k v) (kk : Keep h h' ws) (q : n ∉ ws) : o_21 Z h' n hv k v := ⟨F.1.keep kk, F.2.1.keep kk q, F.2.2.1.keep kk q, F.2.2.2.keep kk q⟩
/-- the map at m, of size s; its table's places vs, or none yet -/
def o_0x (Z : State) (h : Heap) (m : Addr) (s : Int32) (tb : Option Addr) (vs : List Value) : Prop := Exa Z h m o_0d ∧ (∃ c : Int32, Fld Z h m o_0d "modCount" "I" (.int c)) ∧ Fld Z h m o_0d "size" "I" (.int s) ∧ vs.length = 16 ∧ match tb with
  | none => Fld Z h m o_0d "table" o_4m .null ∧ Fld Z h m o_0d "threshold" "I" (.int 0) ∧ vs = List.replicate 16 .null
  | some t => Fld Z h m o_0d "table" o_4m (.ref t) ∧ Fld Z h m o_0d "threshold" "I" (.int 12) ∧ o_02 Z h t o_16 vs
theorem o_0x.ext {Z : State} {h h' : Heap} {m : Addr} {s : Int32} {tb : Option Addr} {vs : List Value} (F : o_0x Z h m s tb vs) (E : Ext h h') : o_0x Z h' m s tb vs := by
  obtain ⟨f1, ⟨c, f2⟩, f3, f4, f5⟩ := F
  refine ⟨f1.ext E, ⟨c, f2.ext E⟩, f3.ext E, f4, ?_⟩
  cases tb with
  | none => exact ⟨f5.1.ext E, f5.2.1.ext E, f5.2.2⟩
  | some t => exact ⟨f5.1.ext E, f5.2.1.ext E, f5.2.2.ext E⟩
theorem o_0x.keep {Z : State} {h h' : Heap} {m : Addr} {s : Int32} {tb : Option Addr} {vs : List Value} {ws : List Addr} (F : o_0x Z h m s tb vs) (k : Keep h h' ws) (q1 : m ∉ ws) (q2 : ∀ t, tb = some t → t ∉ ws) : o_0x Z h' m s tb vs := by
  obtain ⟨f1, ⟨c, f2⟩, f3, f4, f5⟩ := F
  refine ⟨f1.keep k, ⟨c, f2.keep k q1⟩, f3.keep k q1, f4, ?_⟩
  cases tb with
  | none => exact ⟨f5.1.keep k q1, f5.2.1.keep k q1, f5.2.2⟩
  | some t => exact ⟨f5.1.keep k q1, f5.2.1.keep k q1, f5.2.2.keep k (q2 t rfl)⟩
theorem o_6j {Z : State} {a0 : Array Value} (hw : ∀ d ∈ tables_1, d.before a0 Z = true) : (RoadKit.slotOf Z o_0d "modCount" "I" ≠ RoadKit.slotOf Z o_0d "size" "I" ∧ RoadKit.slotOf Z o_0d "modCount" "I" ≠ RoadKit.slotOf Z o_0d "table" o_4m ∧ RoadKit.slotOf Z o_0d "modCount" "I" ≠ RoadKit.slotOf Z o_0d "threshold" "I") ∧ RoadKit.slotOf Z o_0d "size" "I" ≠ RoadKit.slotOf Z o_0d "table" o_4m ∧ RoadKit.slotOf Z o_0d "size" "I" ≠ RoadKit.slotOf Z o_0d "threshold" "I" ∧ RoadKit.slotOf Z o_0d "table" o_4m ≠ RoadKit.slotOf Z o_0d "threshold" "I" := by
  have L1 : Laid Z a0 o_0d o_0d "modCount" "I" := Or.inl (tw_479 hw)
  have L2 : Laid Z a0 o_0d o_0d "size" "I" := Or.inl (tw_481 hw)
  have L3 : Laid Z a0 o_0d o_0d "table" o_4m := Or.inl (tw_241 hw)
  have L4 : Laid Z a0 o_0d o_0d "threshold" "I" := Or.inl (tw_455 hw)
  exact ⟨⟨slot_ne L1 L2 (by decide) (t := .int) (t' := .int) (by decide) (by decide), slot_ne L1 L3 (by decide) (t := .int) (t' := .array (.object o_16)) (by decide) (by decide), slot_ne L1 L4 (by decide) (t := .int) (t' := .int) (by decide) (by decide)⟩, slot_ne L2 L3 (by decide) (t := .int) (t' := .array (.object o_16)) (by decide) (by decide), slot_ne L2 L4 (by decide) (t := .int) (t' := .int) (by decide) (by decide), slot_ne L3 L4 (by decide) (t := .array (.object o_16)) (t' := .int) (by decide) (by decide)⟩
theorem d_nin_0 : decode Bn25 0 = .ok (.aload_n 0, 1) := by decide +kernel
theorem d_nin_1 : decode Bn25 1 = .ok (.invokespecial 1, 3) := by decide +kernel
theorem d_nin_4 : decode Bn25 4 = .ok (.aload_n 0, 1) := by decide +kernel
theorem d_nin_5 : decode Bn25 5 = .ok (.iload_n 1, 1) := by decide +kernel
theorem d_nin_6 : decode Bn25 6 = .ok (.putfield 7, 3) := by decide +kernel
theorem d_nin_9 : decode Bn25 9 = .ok (.aload_n 0, 1) := by decide +kernel
theorem d_nin_10 : decode Bn25 10 = .ok (.aload_n 2, 1) := by decide +kernel
theorem d_nin_11 : decode Bn25 11 = .ok (.putfield 13, 3) := by decide +kernel
theorem d_nin_14 : decode Bn25 14 = .ok (.aload_n 0, 1) := by decide +kernel
theorem d_nin_15 : decode Bn25 15 = .ok (.aload_n 3, 1) := by decide +kernel
theorem d_nin_16 : decode Bn25 16 = .ok (.putfield 17, 3) := by decide +kernel
theorem d_nin_19 : decode Bn25 19 = .ok (.aload_n 0, 1) := by decide +kernel
theorem d_nin_20 : decode Bn25 20 = .ok (.aload 4, 2) := by decide +kernel
theorem d_nin_22 : decode Bn25 22 = .ok (.putfield 20, 3) := by decide +kernel
theorem d_nin_25 : decode Bn25 25 = .ok (.return_, 1) := by decide +kernel
abbrev M_nin : o_7 := (Yn61, jdk_70_method_1_code, 5, (Option.none : Option FieldType), ({ frames := 1, cells := 0, slots := 0, locals := 12 } : Room))
theorem pn_nin : plainFor (o_7.y M_nin) = true := plainFor_of_name (by first | (simp [plainName, overriddenIn]; done) | decide +kernel)
theorem c_nin (K : o_b) (a0 : Array Value) (hw : ∀ d ∈ tables_1, d.before a0 K.Z = true) (n k v : Addr) (hv : Int32) (h : Heap) (E : Exa K.Z h n o_16) (F1 : Fld K.Z h n o_16 "hash" "I" (.int 0)) (F2 : Fld K.Z h n o_16 "key" o_0f .null) (F3 : Fld K.Z h n o_16 "value" o_0f .null) (F4 : Fld K.Z h n o_16 "next" o_9e .null) :
    o_9 K M_nin #[.ref n, .int hv, .ref k, .ref v, .null] [n] h (o_09 fun h' _ => Keep h h' [n] ∧ o_21 K.Z h' n hv k v) := by
  have L1 : Laid K.Z a0 o_16 o_16 "hash" "I" := Or.inr (tw_471 hw)
  have L2 : Laid K.Z a0 o_16 o_16 "key" o_0f := Or.inr (tw_473 hw)
  have L3 : Laid K.Z a0 o_16 o_16 "value" o_0f := Or.inl (tw_475 hw)
  have L4 : Laid K.Z a0 o_16 o_16 "next" o_9e := Or.inl (tw_477 hw)
  have s12 := slot_ne L1 L2 (by decide) (t := .int) (t' := .object "java/lang/Object") (by decide) (by decide)
  have s13 := slot_ne L1 L3 (by decide) (t := .int) (t' := .object "java/lang/Object") (by decide) (by decide)
  have s14 := slot_ne L1 L4 (by decide) (t := .int) (t' := .object o_16) (by decide) (by decide)
  have s23 := slot_ne L2 L3 (by decide) (t := .object "java/lang/Object") (t' := .object "java/lang/Object") (by decide) (by decide)
  have s24 := slot_ne L2 L4 (by decide) (t := .object "java/lang/Object") (t' := .object o_16) (by decide) (by decide)
  have s34 := slot_ne L3 L4 (by decide) (t := .object "java/lang/Object") (t' := .object o_16) (by decide) (by decide)
  refine o_5c (M := M_nin) pn_nin rfl (by first | rfl | exact o_5 (by assumption)) (by first | rfl | exact o_5 (by assumption)) (by first | rfl | exact o_5 (by assumption)) (by first | rfl | exact o_5 (by assumption)) (by first | rfl | exact o_5 (by assumption)) ?_
  refine o_1 (pc' := 1) rfl d_nin_0 rfl (by first | rfl | assumption) ?_
  refine o_2w (pc' := 4) rfl d_nin_1 (o_0 hw 469 rfl) (tw_20 hw) (tw_21 hw) rfl rfl rfl ?_
  refine o_1 (pc' := 5) rfl d_nin_4 rfl (by first | rfl | assumption) ?_
  refine o_2 (pc' := 6) rfl d_nin_5 rfl ?_
  refine o_06 (pc' := 9) rfl d_nin_6 (o_0 hw 470 rfl) Via.refl (Or.inr ⟨(tw_471 hw), rfl, rfl⟩) (tw_463 hw) (ty := .int) (by decide) rfl rfl F1 E (by simp) ?_
  intro h1 W1
  have E1 := E.wr W1
  refine o_1 (pc' := 10) rfl d_nin_9 rfl (by first | rfl | assumption) ?_
  refine o_1 (pc' := 11) rfl d_nin_10 rfl (by first | rfl | assumption) ?_
  refine o_06 (pc' := 14) rfl d_nin_11 (o_0 hw 472 rfl) Via.refl (Or.inr ⟨(tw_473 hw), rfl, rfl⟩) (tw_463 hw) (ty := (.object "java/lang/Object")) (by decide) rfl rfl (F2.other W1 (Or.inr (Ne.symm s12))) E1 (by simp) ?_
  intro h2 W2
  have E2 := E1.wr W2
  refine o_1 (pc' := 15) rfl d_nin_14 rfl (by first | rfl | assumption) ?_
  refine o_1 (pc' := 16) rfl d_nin_15 rfl (by first | rfl | assumption) ?_
  refine o_06 (pc' := 19) rfl d_nin_16 (o_0 hw 474 rfl) Via.refl (Or.inl (tw_475 hw)) (tw_463 hw) (ty := (.object "java/lang/Object")) (by decide) rfl rfl ((F3.other W1 (Or.inr (Ne.symm s13))).other W2 (Or.inr (Ne.symm s23))) E2 (by simp) ?_
  intro h3 W3
  have E3 := E2.wr W3
  refine o_1 (pc' := 20) rfl d_nin_19 rfl (by first | rfl | assumption) ?_
  refine o_d (pc' := 22) rfl d_nin_20 rfl (by first | rfl | assumption) ?_
  refine o_06 (pc' := 25) rfl d_nin_22 (o_0 hw 476 rfl) Via.refl (Or.inl (tw_477 hw)) (tw_463 hw) (ty := (.object "java/util/HashMap$Node")) (by decide) rfl rfl (((F4.other W1 (Or.inr (Ne.symm s14))).other W2 (Or.inr (Ne.symm s24))).other W3 (Or.inr (Ne.symm s34))) E3 (by simp) ?_
  intro h4 W4
  refine o_0b rfl d_nin_25 rfl rfl ?_
  exact ⟨((((Keep.of_wr W1).wr W2 (Or.inl (List.mem_singleton.mpr rfl))).wr W3 (Or.inl (List.mem_singleton.mpr rfl))).wr W4 (Or.inl (List.mem_singleton.mpr rfl))), E3.wr W4, (((F1.same W1).other W2 (Or.inr s12)).other W3 (Or.inr s13)).other W4 (Or.inr s14), ((((F2.other W1 (Or.inr (Ne.symm s12))).same W2).other W3 (Or.inr s23))).other W4 (Or.inr s24), (((F3.other W1 (Or.inr (Ne.symm s13))).other W2 (Or.inr (Ne.symm s23))).same W3).other W4 (Or.inr s34)⟩
theorem d_nwn_0 : decode Bn58 0 = .ok (.new 163, 3) := by decide +kernel
theorem d_nwn_3 : decode Bn58 3 = .ok (.dup, 1) := by decide +kernel
theorem d_nwn_4 : decode Bn58 4 = .ok (.iload_n 1, 1) := by decide +kernel
theorem d_nwn_5 : decode Bn58 5 = .ok (.aload_n 2, 1) := by decide +kernel
theorem d_nwn_6 : decode Bn58 6 = .ok (.aload_n 3, 1) := by decide +kernel
theorem d_nwn_7 : decode Bn58 7 = .ok (.aload 4, 2) := by decide +kernel
theorem d_nwn_9 : decode Bn58 9 = .ok (.invokespecial 375, 3) := by decide +kernel
theorem d_nwn_12 : decode Bn58 12 = .ok (.areturn, 1) := by decide +kernel
abbrev M_nwn : o_7 := (Yn62, jdk_69_method_46_code, 5, (Option.some (FieldType.object "java/util/HashMap$Node")), ({ frames := 2, cells := 1, slots := 4, locals := 30 } : Room))
theorem pn_nwn : plainFor (o_7.y M_nwn) = true := plainFor_of_name (by first | (simp [plainName, overriddenIn]; done) | decide +kernel)
theorem c_nwn (K : o_b) (a0 : Array Value) (hw : ∀ d ∈ tables_1, d.before a0 K.Z = true) (m k v : Addr) (hv : Int32) (h : Heap) :
    o_9 K M_nwn #[.ref m, .int hv, .ref k, .ref v, .null] [] h (o_c fun w h' xs => ∃ n : Addr, w = .ref n ∧ Ext h h' ∧ h.size ≤ n ∧ n ∈ xs ∧ o_21 K.Z h' n hv k v) := by
  refine o_5c (M := M_nwn) pn_nwn rfl (by first | rfl | exact o_5 (by assumption)) (by first | rfl | exact o_5 (by assumption)) (by first | rfl | exact o_5 (by assumption)) (by first | rfl | exact o_5 (by assumption)) (by first | rfl | exact o_5 (by assumption)) ?_
  refine o_29 (pc' := 3) rfl d_nwn_0 (tw_456 hw) (tw_463 hw) (tw_464 hw) rfl rfl ?_
  intro n h1 en E1 X1 D1
  refine o_0a (pc' := 4) rfl d_nwn_3 (by first | rfl | assumption) ?_
  refine o_2 (pc' := 5) rfl d_nwn_4 rfl ?_
  refine o_1 (pc' := 6) rfl d_nwn_5 rfl (by first | rfl | assumption) ?_
  refine o_1 (pc' := 7) rfl d_nwn_6 rfl (by first | rfl | assumption) ?_
  refine o_d (pc' := 9) rfl d_nwn_7 rfl (by first | rfl | assumption) ?_
  refine o_4n (M' := M_nin) d_nwn_9 (pc' := 12) rfl rfl rfl (o_0 hw 465 rfl) (o_0 hw 466 rfl) (tw_464 hw) (o_0 hw 468 rfl) (by decide) rfl (o_6 pd_21 rfl) rfl rfl rfl rfl (c_nin K a0 hw n k v hv h1 X1 (D1 (Or.inr (tw_471 hw)) (ty := .int) (by decide)) (D1 (Or.inr (tw_473 hw)) (ty := .object "java/lang/Object") (by decide)) (D1 (Or.inl (tw_475 hw)) (ty := .object "java/lang/Object") (by decide)) (D1 (Or.inl (tw_477 hw)) (ty := .object "java/util/HashMap$Node") (by decide))) (by simp) ?_
  rintro h2 xs2 ⟨k2, N2⟩
  refine o_i rfl rfl (by first | rfl | assumption) d_nwn_12 rfl rfl ?_
  exact ⟨n, rfl, o_f E1 k2 (by intro z hz; cases List.mem_singleton.mp hz; omega), by omega, by simp, N2⟩
theorem d_rsz_0 : decode Bn4 0 = .ok (.aload_n 0, 1) := by decide +kernel
theorem d_rsz_1 : decode Bn4 1 = .ok (.getfield 105, 3) := by decide +kernel
theorem d_rsz_4 : decode Bn4 4 = .ok (.astore_n 1, 1) := by decide +kernel
theorem d_rsz_5 : decode Bn4 5 = .ok (.aload_n 1, 1) := by decide +kernel
theorem d_rsz_6 : decode Bn4 6 = .ok (.ifnonnull 7, 3) := by decide +kernel
theorem d_rsz_9 : decode Bn4 9 = .ok (.iconst 0, 1) := by decide +kernel
theorem d_rsz_10 : decode Bn4 10 = .ok (.goto 5, 3) := by decide +kernel
theorem d_rsz_15 : decode Bn4 15 = .ok (.istore_n 2, 1) := by decide +kernel
theorem d_rsz_16 : decode Bn4 16 = .ok (.aload_n 0, 1) := by decide +kernel
theorem d_rsz_17 : decode Bn4 17 = .ok (.getfield 88, 3) := by decide +kernel
theorem d_rsz_20 : decode Bn4 20 = .ok (.istore_n 3, 1) := by decide +kernel
theorem d_rsz_21 : decode Bn4 21 = .ok (.iconst 0, 1) := by decide +kernel
theorem d_rsz_22 : decode Bn4 22 = .ok (.istore 5, 2) := by decide +kernel
theorem d_rsz_24 : decode Bn4 24 = .ok (.iload_n 2, 1) := by decide +kernel
theorem d_rsz_25 : decode Bn4 25 = .ok (.ifCond .le 42, 3) := by decide +kernel
theorem d_rsz_67 : decode Bn4 67 = .ok (.iload_n 3, 1) := by decide +kernel
theorem d_rsz_68 : decode Bn4 68 = .ok (.ifCond .le 9, 3) := by decide +kernel
theorem d_rsz_77 : decode Bn4 77 = .ok (.bipush 16, 2) := by decide +kernel
theorem d_rsz_79 : decode Bn4 79 = .ok (.istore 4, 2) := by decide +kernel
theorem d_rsz_81 : decode Bn4 81 = .ok (.bipush 12, 2) := by decide +kernel
theorem d_rsz_83 : decode Bn4 83 = .ok (.istore 5, 2) := by decide +kernel
theorem d_rsz_85 : decode Bn4 85 = .ok (.iload 5, 2) := by decide +kernel
theorem d_rsz_87 : decode Bn4 87 = .ok (.ifCond .ne 38, 3) := by decide +kernel
theorem d_rsz_125 : decode Bn4 125 = .ok (.aload_n 0, 1) := by decide +kernel
theorem d_rsz_126 : decode Bn4 126 = .ok (.iload 5, 2) := by decide +kernel
theorem d_rsz_128 : decode Bn4 128 = .ok (.putfield 88, 3) := by decide +kernel
theorem d_rsz_131 : decode Bn4 131 = .ok (.iload 4, 2) := by decide +kernel
theorem d_rsz_133 : decode Bn4 133 = .ok (.anewarray 163, 3) := by decide +kernel
theorem d_rsz_136 : decode Bn4 136 = .ok (.astore 6, 2) := by decide +kernel
theorem d_rsz_138 : decode Bn4 138 = .ok (.aload_n 0, 1) := by decide +kernel
theorem d_rsz_139 : decode Bn4 139 = .ok (.aload 6, 2) := by decide +kernel
theorem d_rsz_141 : decode Bn4 141 = .ok (.putfield 105, 3) := by decide +kernel
theorem d_rsz_144 : decode Bn4 144 = .ok (.aload_n 1, 1) := by decide +kernel
theorem d_rsz_145 : decode Bn4 145 = .ok (.ifnull 208, 3) := by decide +kernel
theorem d_rsz_353 : decode Bn4 353 = .ok (.aload 6, 2) := by decide +kernel
theorem d_rsz_355 : decode Bn4 355 = .ok (.areturn, 1) := by decide +kernel
abbrev M_rsz : o_7 := (Yn63, jdk_69_method_17_code, 14, (Option.some (FieldType.array (FieldType.object "java/util/HashMap$Node"))), ({ frames := 0, cells := 1, slots := 16, locals := 0 } : Room))
theorem pn_rsz : plainFor (o_7.y M_rsz) = true := plainFor_of_name (by first | (simp [plainName, overriddenIn]; done) | decide +kernel)
theorem c_rsz (K : o_b) (a0 : Array Value) (hw : ∀ d ∈ tables_1, d.before a0 K.Z = true) (m : Addr) (s : Int32) (vs : List Value) (h : Heap) (F : o_0x K.Z h m s none vs) :
    o_9 K M_rsz #[.ref m] [m] h (o_c fun w h' xs => ∃ t : Addr, w = .ref t ∧ Keep h h' [m] ∧ h.size ≤ t ∧ t ∈ xs ∧ o_0x K.Z h' m s (some t) (List.replicate 16 .null)) := by
  obtain ⟨⟨s12, s13, s14⟩, s23, s24, s34⟩ := o_6j hw
  obtain ⟨f1, ⟨c, f2⟩, f3, f4, f5, f6, f7⟩ := F
  have ll : @LT.lt Nat _ _ _ := f1.lt
  refine o_7t (M := M_rsz) pn_rsz rfl (by first | rfl | exact o_5 (by assumption)) ?_
  refine o_1 (pc' := 1) rfl d_rsz_0 rfl (by first | rfl | assumption) ?_
  refine o_q (pc' := 4) rfl d_rsz_1 (tw_240 hw) Via.refl f5 ?_
  refine o_5n (pc' := 5) rfl d_rsz_4 (by first | exact One.u | exact One.val rfl | assumption | exact One.val (by assumption)) (by first | rfl | assumption) ?_
  refine o_1 (pc' := 6) rfl d_rsz_5 rfl (by first | rfl | assumption) ?_
  refine o_1x (pc' := 9) rfl d_rsz_6 ?_
  refine o_4 (v := (0 : Int32)) (pc' := 10) rfl d_rsz_9 rfl ?_
  refine o_o (pc' := 15) d_rsz_10 (by decide) (by decide) ?_
  refine o_2s (pc' := 16) rfl d_rsz_15 (by first | exact One.u | exact One.val rfl | assumption | exact One.val (by assumption)) ?_
  refine o_1 (pc' := 17) rfl d_rsz_16 rfl (by first | rfl | assumption) ?_
  refine o_q (pc' := 20) rfl d_rsz_17 (tw_454 hw) Via.refl f6 ?_
  refine o_1i (pc' := 21) rfl d_rsz_20 (by first | exact One.u | exact One.val rfl | assumption | exact One.val (by assumption)) ?_
  refine o_4 (v := (0 : Int32)) (pc' := 22) rfl d_rsz_21 rfl ?_
  refine o_1a (pc' := 24) rfl d_rsz_22 (by first | exact One.u | exact One.val rfl | assumption | exact One.val (by assumption)) ?_
  refine o_2 (pc' := 25) rfl d_rsz_24 rfl ?_
  refine o_2g (pcT := 67) (pcF := 28) d_rsz_25 (by decide) (by decide) rfl (fun q => ?_) (fun q => ?_)
  rotate_left 1
  · exact absurd q (by decide)
  refine o_2 (pc' := 68) rfl d_rsz_67 rfl ?_
  refine o_2g (pcT := 77) (pcF := 71) d_rsz_68 (by decide) (by decide) rfl (fun q2 => ?_) (fun q2 => ?_)
  rotate_left 1
  · exact absurd q2 (by decide)
  refine o_u (v := (16 : Int32)) (pc' := 79) rfl d_rsz_77 rfl ?_
  refine o_1j (pc' := 81) rfl d_rsz_79 (by first | exact One.u | exact One.val rfl | assumption | exact One.val (by assumption)) ?_
  refine o_u (v := (12 : Int32)) (pc' := 83) rfl d_rsz_81 rfl ?_
  refine o_1a (pc' := 85) rfl d_rsz_83 (by first | exact One.u | exact One.val rfl | assumption | exact One.val (by assumption)) ?_
  refine o_a (pc' := 87) rfl d_rsz_85 rfl ?_
  refine o_0k (pcT := 125) (pcF := 90) d_rsz_87 (by decide) (by decide) rfl (fun q3 => ?_) (fun q3 => ?_)
  rotate_left 1
  · exact absurd q3 (by decide)
  refine o_1 (pc' := 126) rfl d_rsz_125 rfl (by first | rfl | assumption) ?_
  refine o_a (pc' := 128) rfl d_rsz_126 rfl ?_
  refine o_06 (pc' := 131) rfl d_rsz_128 (tw_454 hw) Via.refl (Or.inl (tw_455 hw)) (tw_141 hw) (ty := .int) (by decide) rfl rfl f6 f1 (by simp) ?_
  intro h1 W1
  refine o_a (pc' := 133) rfl d_rsz_131 rfl ?_
  refine o_37 (pc' := 136) rfl d_rsz_133 (tw_456 hw) (o_0 hw 457 rfl) (N := 16) (cap := 16) (by decide) (by decide) rfl rfl rfl ?_
  intro t h2 et E2 R2
  have W1s := W1.size
  have ntm : t ≠ m := o_4k (by omega)
  refine o_3k (pc' := 138) rfl d_rsz_136 (by first | exact One.u | exact One.val rfl | assumption | exact One.val (by assumption)) (by first | rfl | assumption) ?_
  refine o_1 (pc' := 139) rfl d_rsz_138 rfl (by first | rfl | assumption) ?_
  refine o_d (pc' := 141) rfl d_rsz_139 rfl (by first | rfl | assumption) ?_
  refine o_06 (pc' := 144) rfl d_rsz_141 (tw_240 hw) Via.refl (Or.inl (tw_241 hw)) (tw_141 hw) (ty := (.array (.object "java/util/HashMap$Node"))) (by decide) rfl rfl ((f5.other W1 (Or.inr s34)).ext E2) ((f1.wr W1).ext E2) (by simp) ?_
  intro h3 W3
  refine o_1 (pc' := 145) rfl d_rsz_144 rfl (by first | rfl | assumption) ?_
  refine o_3n (pc' := 353) d_rsz_145 (by decide) (by decide) ?_
  refine o_d (pc' := 355) rfl d_rsz_353 rfl (by first | rfl | assumption) ?_
  refine o_i rfl rfl (by first | rfl | assumption) d_rsz_355 rfl rfl ?_
  refine ⟨t, rfl, ((((Keep.refl h [m]).wr W1 (Or.inl (List.mem_singleton.mpr rfl))).ext E2).wr W3 (Or.inl (List.mem_singleton.mpr rfl))), by omega, by simp, ((f1.wr W1).ext E2).wr W3, ⟨c, ((f2.other W1 (Or.inr s14)).ext E2).other W3 (Or.inr s13)⟩, ((f3.other W1 (Or.inr s24)).ext E2).other W3 (Or.inr s23), by simp, ((f5.other W1 (Or.inr s34)).ext E2).same W3, ((f6.same W1).ext E2).other W3 (Or.inr (Ne.symm s34)), R2.other W3 ntm⟩
theorem d_ani_0 : decode jdk_69_method_52_code 0 = .ok (.return_, 1) := by decide +kernel
abbrev M_ani : o_7 := (Yn64, jdk_69_method_52_code, 2, (Option.none : Option FieldType), ({ frames := 0, cells := 0, slots := 0, locals := 0 } : Room))
theorem pn_ani : plainFor (o_7.y M_ani) = true := plainFor_of_name (by first | (simp [plainName, overriddenIn]; done) | decide +kernel)
theorem c_ani (K : o_b) (a0 : Array Value) (hw : ∀ d ∈ tables_1, d.before a0 K.Z = true) (m : Addr) (z : Int32) (h : Heap) : o_9 K M_ani #[.ref m, .int z] [] h (o_09 fun h' _ => h' = h) := by
  refine o_08 (M := M_ani) pn_ani rfl (by first | rfl | exact o_5 (by assumption)) (by first | rfl | exact o_5 (by assumption)) ?_
  refine o_0b rfl d_ani_0 rfl rfl ?_
  rfl
/-- what a put may write -/
def o_1v (m : Addr) (tb : Option Addr) : List Addr := m :: tb.toList
theorem d_pvl_0 : decode Bn1 0 = .ok (.aload_n 0, 1) := by decide +kernel
theorem d_pvl_1 : decode Bn1 1 = .ok (.getfield 105, 3) := by decide +kernel
theorem d_pvl_4 : decode Bn1 4 = .ok (.dup, 1) := by decide +kernel
theorem d_pvl_5 : decode Bn1 5 = .ok (.astore 6, 2) := by decide +kernel
theorem d_pvl_7 : decode Bn1 7 = .ok (.ifnull 12, 3) := by decide +kernel
theorem d_pvl_10 : decode Bn1 10 = .ok (.aload 6, 2) := by decide +kernel
theorem d_pvl_12 : decode Bn1 12 = .ok (.arraylength, 1) := by decide +kernel
theorem d_pvl_13 : decode Bn1 13 = .ok (.dup, 1) := by decide +kernel
theorem d_pvl_14 : decode Bn1 14 = .ok (.istore 8, 2) := by decide +kernel
theorem d_pvl_16 : decode Bn1 16 = .ok (.ifCond .ne 13, 3) := by decide +kernel
theorem d_pvl_19 : decode Bn1 19 = .ok (.aload_n 0, 1) := by decide +kernel
theorem d_pvl_20 : decode Bn1 20 = .ok (.invokevirtual 117, 3) := by decide +kernel
theorem d_pvl_23 : decode Bn1 23 = .ok (.dup, 1) := by decide +kernel
theorem d_pvl_24 : decode Bn1 24 = .ok (.astore 6, 2) := by decide +kernel
theorem d_pvl_26 : decode Bn1 26 = .ok (.arraylength, 1) := by decide +kernel
theorem d_pvl_27 : decode Bn1 27 = .ok (.istore 8, 2) := by decide +kernel
theorem d_pvl_29 : decode Bn1 29 = .ok (.aload 6, 2) := by decide +kernel
theorem d_pvl_31 : decode Bn1 31 = .ok (.iload 8, 2) := by decide +kernel
theorem d_pvl_33 : decode Bn1 33 = .ok (.iconst 1, 1) := by decide +kernel
theorem d_pvl_34 : decode Bn1 34 = .ok (.isub, 1) := by decide +kernel
theorem d_pvl_35 : decode Bn1 35 = .ok (.iload_n 1, 1) := by decide +kernel
theorem d_pvl_36 : decode Bn1 36 = .ok (.iand, 1) := by decide +kernel
theorem d_pvl_37 : decode Bn1 37 = .ok (.dup, 1) := by decide +kernel
theorem d_pvl_38 : decode Bn1 38 = .ok (.istore 9, 2) := by decide +kernel
theorem d_pvl_40 : decode Bn1 40 = .ok (.aaload, 1) := by decide +kernel
theorem d_pvl_41 : decode Bn1 41 = .ok (.dup, 1) := by decide +kernel
theorem d_pvl_42 : decode Bn1 42 = .ok (.astore 7, 2) := by decide +kernel
theorem d_pvl_44 : decode Bn1 44 = .ok (.ifnonnull 19, 3) := by decide +kernel
theorem d_pvl_47 : decode Bn1 47 = .ok (.aload 6, 2) := by decide +kernel
theorem d_pvl_49 : decode Bn1 49 = .ok (.iload 9, 2) := by decide +kernel
theorem d_pvl_51 : decode Bn1 51 = .ok (.aload_n 0, 1) := by decide +kernel
theorem d_pvl_52 : decode Bn1 52 = .ok (.iload_n 1, 1) := by decide +kernel
theorem d_pvl_53 : decode Bn1 53 = .ok (.aload_n 2, 1) := by decide +kernel
theorem d_pvl_54 : decode Bn1 54 = .ok (.aload_n 3, 1) := by decide +kernel
theorem d_pvl_55 : decode Bn1 55 = .ok (.aconst_null, 1) := by decide +kernel
theorem d_pvl_56 : decode Bn1 56 = .ok (.invokevirtual 186, 3) := by decide +kernel
theorem d_pvl_59 : decode Bn1 59 = .ok (.aastore, 1) := by decide +kernel
theorem d_pvl_60 : decode Bn1 60 = .ok (.goto 199, 3) := by decide +kernel
theorem d_pvl_259 : decode Bn1 259 = .ok (.aload_n 0, 1) := by decide +kernel
theorem d_pvl_260 : decode Bn1 260 = .ok (.dup, 1) := by decide +kernel
theorem d_pvl_261 : decode Bn1 261 = .ok (.getfield 202, 3) := by decide +kernel
theorem d_pvl_264 : decode Bn1 264 = .ok (.iconst 1, 1) := by decide +kernel
theorem d_pvl_265 : decode Bn1 265 = .ok (.iadd, 1) := by decide +kernel
theorem d_pvl_266 : decode Bn1 266 = .ok (.putfield 202, 3) := by decide +kernel
theorem d_pvl_269 : decode Bn1 269 = .ok (.aload_n 0, 1) := by decide +kernel
theorem d_pvl_270 : decode Bn1 270 = .ok (.dup, 1) := by decide +kernel
theorem d_pvl_271 : decode Bn1 271 = .ok (.getfield 156, 3) := by decide +kernel
theorem d_pvl_274 : decode Bn1 274 = .ok (.iconst 1, 1) := by decide +kernel
theorem d_pvl_275 : decode Bn1 275 = .ok (.iadd, 1) := by decide +kernel
theorem d_pvl_276 : decode Bn1 276 = .ok (.dup_x1, 1) := by decide +kernel
theorem d_pvl_277 : decode Bn1 277 = .ok (.putfield 156, 3) := by decide +kernel
theorem d_pvl_280 : decode Bn1 280 = .ok (.aload_n 0, 1) := by decide +kernel
theorem d_pvl_281 : decode Bn1 281 = .ok (.getfield 88, 3) := by decide +kernel
theorem d_pvl_284 : decode Bn1 284 = .ok (.if_icmp .le 8, 3) := by decide +kernel
theorem d_pvl_292 : decode Bn1 292 = .ok (.aload_n 0, 1) := by decide +kernel
theorem d_pvl_293 : decode Bn1 293 = .ok (.iload 5, 2) := by decide +kernel
theorem d_pvl_295 : decode Bn1 295 = .ok (.invokevirtual 205, 3) := by decide +kernel
theorem d_pvl_298 : decode Bn1 298 = .ok (.aconst_null, 1) := by decide +kernel
theorem d_pvl_299 : decode Bn1 299 = .ok (.areturn, 1) := by decide +kernel
abbrev M_pvl : o_7 := (Yn65, jdk_69_method_16_code, 13, (Option.some (FieldType.object "java/lang/Object")), ({ frames := 3, cells := 2, slots := 20, locals := 60 } : Room))
theorem pn_pvl : plainFor (o_7.y M_pvl) = true := plainFor_of_name (by first | (simp [plainName, overriddenIn]; done) | decide +kernel)
def Q_pvl (K : o_b) (m : Addr) (s hv : Int32) (tb : Option Addr) (vs : List Value) (I : Nat) (k v : Addr) (h : Heap) : Value → Heap → List Addr → Prop := fun w h' xs => w = .null ∧ Keep h h' (o_1v m tb) ∧ ∃ t n : Addr, (tb = some t ∨ (t ∈ xs ∧ h.size ≤ t)) ∧ h.size ≤ n ∧ o_0x K.Z h' m (s + 1) (some t) (vs.set I (.ref n)) ∧ o_21 K.Z h' n hv k v
theorem c_pvl (K : o_b) (a0 : Array Value) (hw : ∀ d ∈ tables_1, d.before a0 K.Z = true) (m k v : Addr) (s hv : Int32) (tb : Option Addr) (vs : List Value) (I : Nat) (h : Heap) (F : o_0x K.Z h m s tb vs) (hI : (((16 : Int32) - 1) &&& hv).toInt = I) (hn : vs[I]? = some .null) (hs0 : 0 ≤ s.toInt) (hs : s.toInt < 12) (hmt : ∀ t, tb = some t → t ≠ m) :
    o_9 K M_pvl #[.ref m, .int hv, .ref k, .ref v, .int 0, .int 1] (o_1v m tb) h (o_c (Q_pvl K m s hv tb vs I k v h)) := by
  obtain ⟨⟨s12, s13, s14⟩, s23, s24, s34⟩ := o_6j hw
  have v1 : (1 : Int32).toInt = 1 := rfl
  have v12 : (12 : Int32).toInt = 12 := rfl
  have lm : @LT.lt Nat _ _ _ := F.1.lt
  have hI16 : I < vs.length := (List.getElem?_eq_some_iff.mp hn).1
  have k29 : ∀ (t : Addr) (h1 : Heap) (sf : List Addr), o_0x K.Z h1 m s (some t) vs → (tb = some t ∨ (t ∈ sf ∧ h.size ≤ t)) → t ∈ sf → m ∈ sf → t ≠ m → Keep h h1 [m] → o_3 K M_pvl (o_c (Q_pvl K m s hv tb vs I k v h)) 29 [.val (.ref m), .val (.int hv), .val (.ref k), .val (.ref v), .val (.int 0), .val (.int 1), .val (.ref t), .unset, .val (.int 16), .unset, .unset, .unset, .unset] [] sf h1 1 16 := by
    intro t h1 sf G ht hts hms ntm kh
    obtain ⟨f1, ⟨c, f2⟩, f3, f4, f5, f6, f7⟩ := G
    have l1 : @LT.lt Nat _ _ _ := f1.lt
    have lt1 : @LT.lt Nat _ _ _ := f7.lt
    refine o_d (pc' := 31) rfl d_pvl_29 rfl (by first | rfl | assumption) ?_
    refine o_a (pc' := 33) rfl d_pvl_31 rfl ?_
    refine o_4 (v := (1 : Int32)) (pc' := 34) rfl d_pvl_33 rfl ?_
    refine o_2x (pc' := 35) rfl d_pvl_34 ?_
    refine o_2 (pc' := 36) rfl d_pvl_35 rfl ?_
    refine o_1l (pc' := 37) rfl d_pvl_36 ?_
    refine o_0a (pc' := 38) rfl d_pvl_37 (by first | rfl | assumption) ?_
    refine o_7r (pc' := 40) rfl d_pvl_38 (by first | exact One.u | exact One.val rfl | assumption | exact One.val (by assumption)) ?_
    refine o_15 (pc' := 41) rfl d_pvl_40 rfl f7.ary (i := I) hI hn ?_
    refine o_0a (pc' := 42) rfl d_pvl_41 (by first | rfl | assumption) ?_
    refine o_41 (pc' := 44) rfl d_pvl_42 (by first | exact One.u | exact One.val rfl | assumption | exact One.val (by assumption)) (by first | rfl | assumption) ?_
    refine o_1x (pc' := 47) rfl d_pvl_44 ?_
    refine o_d (pc' := 49) rfl d_pvl_47 rfl (by first | rfl | assumption) ?_
    refine o_a (pc' := 51) rfl d_pvl_49 rfl ?_
    refine o_1 (pc' := 52) rfl d_pvl_51 rfl (by first | rfl | assumption) ?_
    refine o_2 (pc' := 53) rfl d_pvl_52 rfl ?_
    refine o_1 (pc' := 54) rfl d_pvl_53 rfl (by first | rfl | assumption) ?_
    refine o_1 (pc' := 55) rfl d_pvl_54 rfl (by first | rfl | assumption) ?_
    refine o_1c (pc' := 56) rfl d_pvl_55 ?_
    refine o_75 (M' := M_nwn) d_pvl_56 (pc' := 59) rfl (o_0 hw 458 rfl) (o_0 hw 459 rfl) (o_0 hw 461 rfl) (o_0 hw 460 rfl) (tw_142 hw) (o_0 hw 462 rfl) (by decide) rfl (o_6 pd_22 rfl) rfl rfl rfl rfl f1 (c_nwn K a0 hw m k v hv h1) (by simp) ?_
    rintro w h2 xs2 ⟨n, rfl, E2, hn2, hnx, N2⟩
    have nnt : n ≠ t := o_4k (by omega)
    have nnm : n ≠ m := o_4k (by omega)
    refine o_2c (pc' := 60) rfl d_pvl_59 (f7.ext E2) (i := I) hI hI16 (Ins.self N2.1) (by simp [hts]) ?_
    intro h3 k3 R3
    have nm : m ∉ [t] := ninS (Ne.symm ntm) nin0
    have g1 := (f1.ext E2).keep k3
    have g2 := (f2.ext E2).keep k3 nm
    have g3 := (f3.ext E2).keep k3 nm
    have g5 := (f5.ext E2).keep k3 nm
    have g6 := (f6.ext E2).keep k3 nm
    have N3 := N2.keep k3 (ninS nnt nin0)
    refine o_o (pc' := 259) d_pvl_60 (by decide) (by decide) ?_
    refine o_1 (pc' := 260) rfl d_pvl_259 rfl (by first | rfl | assumption) ?_
    refine o_0a (pc' := 261) rfl d_pvl_260 (by first | rfl | assumption) ?_
    refine o_q (pc' := 264) rfl d_pvl_261 (tw_478 hw) Via.refl g2 ?_
    refine o_4 (v := (1 : Int32)) (pc' := 265) rfl d_pvl_264 rfl ?_
    refine o_0h (pc' := 266) rfl d_pvl_265 ?_
    refine o_06 (pc' := 269) rfl d_pvl_266 (tw_478 hw) Via.refl (Or.inl (tw_479 hw)) (tw_141 hw) (ty := .int) (by decide) rfl rfl g2 g1 (by simp [hms]) ?_
    intro h4 W4
    refine o_1 (pc' := 270) rfl d_pvl_269 rfl (by first | rfl | assumption) ?_
    refine o_0a (pc' := 271) rfl d_pvl_270 (by first | rfl | assumption) ?_
    refine o_q (pc' := 274) rfl d_pvl_271 (tw_480 hw) Via.refl (g3.other W4 (Or.inr (Ne.symm s12))) ?_
    refine o_4 (v := (1 : Int32)) (pc' := 275) rfl d_pvl_274 rfl ?_
    refine o_0h (pc' := 276) rfl d_pvl_275 ?_
    refine o_6f (pc' := 277) rfl d_pvl_276 rfl rfl ?_
    refine o_06 (pc' := 280) rfl d_pvl_277 (tw_480 hw) Via.refl (Or.inl (tw_481 hw)) (tw_141 hw) (ty := .int) (by decide) rfl rfl (g3.other W4 (Or.inr (Ne.symm s12))) (g1.wr W4) (by simp [hms]) ?_
    intro h5 W5
    refine o_1 (pc' := 281) rfl d_pvl_280 rfl (by first | rfl | assumption) ?_
    refine o_q (pc' := 284) rfl d_pvl_281 (tw_454 hw) Via.refl ((g6.other W4 (Or.inr (Ne.symm s14))).other W5 (Or.inr (Ne.symm s24))) ?_
    refine o_1m (pcT := 292) (pcF := 287) d_pvl_284 (by decide) (by decide) rfl (fun q => ?_) (fun q => ?_)
    rotate_left 1
    · exfalso
      rw [Int32.lt_iff_toInt_lt, o_20 (x := s) rfl v1 (by omega) (by omega), v12] at q
      omega
    refine o_1 (pc' := 293) rfl d_pvl_292 rfl (by first | rfl | assumption) ?_
    refine o_a (pc' := 295) rfl d_pvl_293 rfl ?_
    refine o_72 (M' := M_ani) d_pvl_295 (pc' := 298) rfl (o_0 hw 482 rfl) (o_0 hw 483 rfl) (o_0 hw 485 rfl) (o_0 hw 484 rfl) (tw_142 hw) (o_0 hw 486 rfl) (by decide) rfl (o_6 pd_23 rfl) rfl rfl rfl rfl ((g1.wr W4).wr W5) (c_ani K a0 hw m 1 h5) (by simp) ?_
    rintro h6 xs6 rfl
    refine o_1c (pc' := 299) rfl d_pvl_298 ?_
    refine o_i rfl rfl (by first | rfl | assumption) d_pvl_299 rfl rfl ?_
    have kk : Keep h h3 (o_1v m tb) := ((((Keep.refl h (o_1v m tb)).trans kh (fun z hz => Or.inl (by cases List.mem_singleton.mp hz; exact List.mem_cons_self))).ext E2).trans k3 (fun z hz => by cases List.mem_singleton.mp hz; exact ht.elim (fun e => Or.inl (by rw [e]; simp [o_1v])) (fun q => Or.inr q.2)))
    have nm2 : n ∉ [m] := ninS nnm nin0
    refine ⟨rfl, (kk.wr W4 (Or.inl List.mem_cons_self)).wr W5 (Or.inl List.mem_cons_self), t, n, ht.imp id fun z => ⟨by simp [z.1], z.2⟩, Nat.le_trans kh.1 hn2, ⟨(g1.wr W4).wr W5, ⟨_, (g2.same W4).other W5 (Or.inr s12)⟩, (g3.other W4 (Or.inr (Ne.symm s12))).same W5, by simp [f4], (g5.other W4 (Or.inr (Ne.symm s13))).other W5 (Or.inr (Ne.symm s23)), (g6.other W4 (Or.inr (Ne.symm s14))).other W5 (Or.inr (Ne.symm s24)), (R3.other W4 ntm).other W5 ntm⟩, (N3.keep (Keep.of_wr W4) nm2).keep (Keep.of_wr W5) nm2⟩
  refine o_8d (M := M_pvl) pn_pvl rfl (by first | rfl | exact o_5 (by assumption)) (by first | rfl | exact o_5 (by assumption)) (by first | rfl | exact o_5 (by assumption)) (by first | rfl | exact o_5 (by assumption)) (by first | rfl | exact o_5 (by assumption)) (by first | rfl | exact o_5 (by assumption)) ?_
  refine o_1 (pc' := 1) rfl d_pvl_0 rfl (by first | rfl | assumption) ?_
  cases tb with
  | none =>
    have F' := F
    obtain ⟨f1, -, f3, f4, f5, f6, f7⟩ := F'
    refine o_q (pc' := 4) rfl d_pvl_1 (tw_240 hw) Via.refl f5 ?_
    refine o_0a (pc' := 5) rfl d_pvl_4 (by first | rfl | assumption) ?_
    refine o_3k (pc' := 7) rfl d_pvl_5 (by first | exact One.u | exact One.val rfl | assumption | exact One.val (by assumption)) (by first | rfl | assumption) ?_
    refine o_3n (pc' := 19) d_pvl_7 (by decide) (by decide) ?_
    refine o_1 (pc' := 20) rfl d_pvl_19 rfl (by first | rfl | assumption) ?_
    refine o_0p (M' := M_rsz) d_pvl_20 (pc' := 23) rfl (o_0 hw 449 rfl) (o_0 hw 450 rfl) (o_0 hw 452 rfl) (o_0 hw 451 rfl) (tw_142 hw) (o_0 hw 453 rfl) (by decide) rfl (o_6 pd_24 rfl) rfl rfl rfl rfl f1 (c_rsz K a0 hw m s vs h F) (by intro z hz; cases List.mem_singleton.mp hz; simp [o_1v]) ?_
    rintro w h1 xs1 ⟨t, rfl, k1, ht, htx, G⟩
    have ntm : t ≠ m := o_4k (by omega)
    refine o_0a (pc' := 24) rfl d_pvl_23 (by first | rfl | assumption) ?_
    refine o_3k (pc' := 26) rfl d_pvl_24 (by first | exact One.u | exact One.val rfl | assumption | exact One.val (by assumption)) (by first | rfl | assumption) ?_
    refine o_01 (z := 16) (pc' := 27) rfl d_pvl_26 G.2.2.2.2.2.2.ary (by simp) ?_
    refine o_5q (pc' := 29) rfl d_pvl_27 (by first | exact One.u | exact One.val rfl | assumption | exact One.val (by assumption)) ?_
    rw [← f7] at G
    exact o_s (k29 t h1 _ G (Or.inr ⟨by simp [htx], ht⟩) (by simp [htx]) (by simp [o_1v]) ntm k1) (fun z hz => hz) (by exact Nat.le_of_ble_eq_true rfl) (by exact Nat.le_of_ble_eq_true rfl)
  | some t =>
    have F' := F
    obtain ⟨f1, -, f3, f4, f5, f6, f7⟩ := F'
    refine o_q (pc' := 4) rfl d_pvl_1 (tw_240 hw) Via.refl f5 ?_
    refine o_0a (pc' := 5) rfl d_pvl_4 (by first | rfl | assumption) ?_
    refine o_3k (pc' := 7) rfl d_pvl_5 (by first | exact One.u | exact One.val rfl | assumption | exact One.val (by assumption)) (by first | rfl | assumption) ?_
    refine o_3o (pc' := 10) rfl d_pvl_7 ?_
    refine o_d (pc' := 12) rfl d_pvl_10 rfl (by first | rfl | assumption) ?_
    refine o_01 (z := 16) (pc' := 13) rfl d_pvl_12 f7.ary (by rw [f4]; rfl) ?_
    refine o_0a (pc' := 14) rfl d_pvl_13 (by first | rfl | assumption) ?_
    refine o_5q (pc' := 16) rfl d_pvl_14 (by first | exact One.u | exact One.val rfl | assumption | exact One.val (by assumption)) ?_
    refine o_0k (pcT := 29) (pcF := 19) d_pvl_16 (by decide) (by decide) rfl (fun q => ?_) (fun q => ?_)
    rotate_left 1
    · exact absurd q (by decide)
    exact o_s (k29 t h _ F (Or.inl rfl) (by simp [o_1v]) (by simp [o_1v]) (hmt t rfl) (Keep.refl _ _)) (fun z hz => hz) (by exact Nat.le_of_ble_eq_true rfl) (by exact Nat.le_of_ble_eq_true rfl)
theorem o_50 {h h' : Heap} {x : Addr} {sl : Nat} {v : Value} (q : h' = h ∨ Wr h h' x sl v) : Keep h h' [x] := q.elim (fun e => by rw [e]; exact Keep.refl _ _) Keep.of_wr
theorem o_0j.keep {Z : State} {h h' : Heap} {x : Addr} {cs : List Int32} {n : Int32} {ws : List Addr} (F : o_0j Z h x cs n) (k : Keep h h' ws) (q1 : x ∉ ws) (q2 : ∀ b c, Arr Z h b c .byte → b ∉ ws) : o_0j Z h' x cs n := by
  obtain ⟨f1, f2, f3, f4, f5, b, f6, f7, f8, f9⟩ := F
  have nb : b ∉ ws := by obtain ⟨c, A, -⟩ := f9; exact q2 b c A
  exact ⟨f1, f2, f3, f4.keep k, f5.keep k q1, b, f6.keep k q1, f7.keep k q1, f8.keep k, f9.keep k nb⟩
theorem o_19 {Z : State} {a0 : Array Value} {h : Heap} {a b : Addr} {C : String} {kk : Nat} {ty : FieldType} {vs : List Value} (A : o_g Z h b ty vs) (E : Exa Z h a C) (wi : (Jvm.Cond.instantiable C kk).before a0 Z = true) : b ≠ a := fun q => by obtain ⟨c, A, -⟩ := A; exact ne_arr E wi A q.symm
/-- an array of bytes is none of references -/
theorem o_4i {Z : State} {h : Heap} {a b : Addr} {c : Cell} {C : String} {vs : List Value} (A : Arr Z h b c .byte) (R : o_02 Z h a C vs) : b ≠ a := by
  rintro rfl
  obtain ⟨c', ⟨a1, ⟨-, k1, a2, p1, a3⟩, -⟩, -⟩ := R
  obtain ⟨b1, ⟨-, k2, b2, p2, b3⟩, -⟩ := A
  cases a1.symm.trans b1
  cases a2.symm.trans b2
  rw [a3] at b3
  cases b3
theorem d_put_0 : decode Bn47 0 = .ok (.aload_n 0, 1) := by decide +kernel
theorem d_put_1 : decode Bn47 1 = .ok (.aload_n 1, 1) := by decide +kernel
theorem d_put_2 : decode Bn47 2 = .ok (.invokestatic 149, 3) := by decide +kernel
theorem d_put_5 : decode Bn47 5 = .ok (.aload_n 1, 1) := by decide +kernel
theorem d_put_6 : decode Bn47 6 = .ok (.aload_n 2, 1) := by decide +kernel
theorem d_put_7 : decode Bn47 7 = .ok (.iconst 0, 1) := by decide +kernel
theorem d_put_8 : decode Bn47 8 = .ok (.iconst 1, 1) := by decide +kernel
theorem d_put_9 : decode Bn47 9 = .ok (.invokevirtual 152, 3) := by decide +kernel
theorem d_put_12 : decode Bn47 12 = .ok (.areturn, 1) := by decide +kernel
abbrev M_put : o_7 := (Yn66, jdk_69_method_15_code, 3, (Option.some (FieldType.object "java/lang/Object")), ({ frames := 5, cells := 2, slots := 20, locals := 85 } : Room))
theorem pn_put : plainFor (o_7.y M_put) = true := plainFor_of_name (by first | (simp [plainName, overriddenIn]; done) | decide +kernel)
theorem c_put (K : o_b) (a0 : Array Value) (hw : ∀ d ∈ tables_1, d.before a0 K.Z = true) (g : Int32) (SC : Sta K.Z K.Z.heap o_l "COMPACT_STRINGS" "Z" (.int g)) (hg : ¬ g = 0) (m x v : Addr) (s : Int32) (tb : Option Addr) (vs : List Value) (I : Nat) (cs : List Int32) (n0 : Int32) (h : Heap) (F : o_0x K.Z h m s tb vs) (S : o_0j K.Z h x cs n0) (hn0 : n0 = 0 ∨ n0 = o_m cs) (h0 : ¬ o_m cs = 0) (hx : o_m cs ^^^ XT.ushr (o_m cs) 16 = o_m cs) (LH : ∀ (b : Addr) (h : Heap), Exa K.Z h b "[B" → o_g K.Z h b .byte (o_p (cs.map o_04)) → o_9 K M_lhc #[.ref b] [] h (o_c fun w h' _ => w = .int (o_m cs) ∧ h' = h)) (hI : (((16 : Int32) - 1) &&& o_m cs).toInt = I) (hn : vs[I]? = some .null) (hs0 : 0 ≤ s.toInt) (hs : s.toInt < 12) :
    o_9 K M_put #[.ref m, .ref x, .ref v] (x :: o_1v m tb) h (o_c fun w h' xs => w = .null ∧ Keep h h' (x :: o_1v m tb) ∧ ∃ t n : Addr, (tb = some t ∨ (t ∈ xs ∧ h.size ≤ t)) ∧ h.size ≤ n ∧ o_0x K.Z h' m (s + 1) (some t) (vs.set I (.ref n)) ∧ o_21 K.Z h' n (o_m cs) x v ∧ o_0j K.Z h' x cs (o_m cs)) := by
  have nmx : m ≠ x := ne_exa F.1 S.2.2.2.1 (by decide)
  have ntx : ∀ t, tb = some t → t ≠ x ∧ t ≠ m := by
    rintro t rfl
    have R := F.2.2.2.2.2.2
    exact ⟨o_19 R.ary S.2.2.2.1 (tw_10 hw), o_19 R.ary F.1 (tw_141 hw)⟩
  refine o_1d (M := M_put) pn_put rfl (by first | rfl | exact o_5 (by assumption)) (by first | rfl | exact o_5 (by assumption)) (by first | rfl | exact o_5 (by assumption)) ?_
  refine o_1 (pc' := 1) rfl d_put_0 rfl (by first | rfl | assumption) ?_
  refine o_1 (pc' := 2) rfl d_put_1 rfl (by first | rfl | assumption) ?_
  refine o_03 (M' := M_hsh) d_put_2 (pc' := 5) rfl (tw_420 hw) (tw_421 hw) (tw_142 hw) (tw_422 hw) (by decide) rfl (o_6 pd_25 rfl) rfl rfl rfl rfl (c_hsh K a0 hw g SC hg x cs n0 h S hn0 h0 hx LH) (by simp) ?_
  rintro w h1 xs1 ⟨rfl, q1, S1⟩
  have k1 := o_50 q1
  have F1 := F.keep k1 (ninS nmx nin0) (fun t e => ninS (ntx t e).1 nin0)
  refine o_1 (pc' := 6) rfl d_put_5 rfl (by first | rfl | assumption) ?_
  refine o_1 (pc' := 7) rfl d_put_6 rfl (by first | rfl | assumption) ?_
  refine o_4 (v := (0 : Int32)) (pc' := 8) rfl d_put_7 rfl ?_
  refine o_4 (v := (1 : Int32)) (pc' := 9) rfl d_put_8 rfl ?_
  refine o_76 (M' := M_pvl) d_put_9 (pc' := 12) rfl (o_0 hw 444 rfl) (o_0 hw 445 rfl) (o_0 hw 447 rfl) (o_0 hw 446 rfl) (tw_142 hw) (o_0 hw 448 rfl) (by decide) rfl (o_6 pd_26 rfl) rfl rfl rfl rfl F1.1 (c_pvl K a0 hw m x v s (o_m cs) tb vs I h1 F1 hI hn hs0 hs (fun t e => (ntx t e).2)) (by intro z hz; simp only [List.mem_append, List.mem_cons]; exact Or.inr (Or.inr hz)) ?_
  rintro w h2 xs2 ⟨rfl, k2, t, n, ht, hnn, F2, N2⟩
  have nxw : x ∉ o_1v m tb := by
    intro z
    rcases List.mem_cons.mp z with z | z
    · exact nmx z.symm
    · cases tb with
      | none => cases z
      | some t0 => simp at z; exact (ntx t0 rfl).1 z.symm
  have nbw : ∀ b c, Arr K.Z h1 b c .byte → b ∉ o_1v m tb := by
    intro b c A z
    rcases List.mem_cons.mp z with z | z
    · exact ne_arr F1.1 (tw_141 hw) A z.symm
    · cases tb with
      | none => cases z
      | some t0 => simp at z; exact o_4i A F1.2.2.2.2.2.2 z
  refine o_i rfl rfl (by first | rfl | assumption) d_put_12 rfl rfl ?_
  refine ⟨rfl, ((Keep.refl h (x :: o_1v m tb)).trans k1 (fun z hz => Or.inl (by cases List.mem_singleton.mp hz; exact List.mem_cons_self))).trans k2 (fun z hz => Or.inl (List.mem_cons_of_mem _ hz)), t, n, ht.imp id fun z => ⟨by simp [z.1], Nat.le_trans k1.1 z.2⟩, Nat.le_trans k1.1 hnn, F2, N2, S1.keep k2 nxw nbw⟩
theorem d_gnd_0 : decode Bn2 0 = .ok (.aload_n 0, 1) := by decide +kernel
theorem d_gnd_1 : decode Bn2 1 = .ok (.getfield 105, 3) := by decide +kernel
theorem d_gnd_4 : decode Bn2 4 = .ok (.dup, 1) := by decide +kernel
theorem d_gnd_5 : decode Bn2 5 = .ok (.astore_n 2, 1) := by decide +kernel
theorem d_gnd_6 : decode Bn2 6 = .ok (.ifnull 142, 3) := by decide +kernel
theorem d_gnd_9 : decode Bn2 9 = .ok (.aload_n 2, 1) := by decide +kernel
theorem d_gnd_10 : decode Bn2 10 = .ok (.arraylength, 1) := by decide +kernel
theorem d_gnd_11 : decode Bn2 11 = .ok (.dup, 1) := by decide +kernel
theorem d_gnd_12 : decode Bn2 12 = .ok (.istore 5, 2) := by decide +kernel
theorem d_gnd_14 : decode Bn2 14 = .ok (.ifCond .le 134, 3) := by decide +kernel
theorem d_gnd_17 : decode Bn2 17 = .ok (.aload_n 2, 1) := by decide +kernel
theorem d_gnd_18 : decode Bn2 18 = .ok (.iload 5, 2) := by decide +kernel
theorem d_gnd_20 : decode Bn2 20 = .ok (.iconst 1, 1) := by decide +kernel
theorem d_gnd_21 : decode Bn2 21 = .ok (.isub, 1) := by decide +kernel
theorem d_gnd_22 : decode Bn2 22 = .ok (.aload_n 1, 1) := by decide +kernel
theorem d_gnd_23 : decode Bn2 23 = .ok (.invokestatic 149, 3) := by decide +kernel
theorem d_gnd_26 : decode Bn2 26 = .ok (.dup, 1) := by decide +kernel
theorem d_gnd_27 : decode Bn2 27 = .ok (.istore 6, 2) := by decide +kernel
theorem d_gnd_29 : decode Bn2 29 = .ok (.iand, 1) := by decide +kernel
theorem d_gnd_30 : decode Bn2 30 = .ok (.aaload, 1) := by decide +kernel
theorem d_gnd_31 : decode Bn2 31 = .ok (.dup, 1) := by decide +kernel
theorem d_gnd_32 : decode Bn2 32 = .ok (.astore_n 3, 1) := by decide +kernel
theorem d_gnd_33 : decode Bn2 33 = .ok (.ifnull 115, 3) := by decide +kernel
theorem d_gnd_36 : decode Bn2 36 = .ok (.aload_n 3, 1) := by decide +kernel
theorem d_gnd_37 : decode Bn2 37 = .ok (.getfield 168, 3) := by decide +kernel
theorem d_gnd_40 : decode Bn2 40 = .ok (.iload 6, 2) := by decide +kernel
theorem d_gnd_42 : decode Bn2 42 = .ok (.if_icmp .ne 29, 3) := by decide +kernel
theorem d_gnd_45 : decode Bn2 45 = .ok (.aload_n 3, 1) := by decide +kernel
theorem d_gnd_46 : decode Bn2 46 = .ok (.getfield 170, 3) := by decide +kernel
theorem d_gnd_49 : decode Bn2 49 = .ok (.dup, 1) := by decide +kernel
theorem d_gnd_50 : decode Bn2 50 = .ok (.astore 7, 2) := by decide +kernel
theorem d_gnd_52 : decode Bn2 52 = .ok (.aload_n 1, 1) := by decide +kernel
theorem d_gnd_53 : decode Bn2 53 = .ok (.if_acmp .eq 16, 3) := by decide +kernel
theorem d_gnd_56 : decode Bn2 56 = .ok (.aload_n 1, 1) := by decide +kernel
theorem d_gnd_57 : decode Bn2 57 = .ok (.ifnull 14, 3) := by decide +kernel
theorem d_gnd_60 : decode Bn2 60 = .ok (.aload_n 1, 1) := by decide +kernel
theorem d_gnd_61 : decode Bn2 61 = .ok (.aload 7, 2) := by decide +kernel
theorem d_gnd_63 : decode Bn2 63 = .ok (.invokevirtual 173, 3) := by decide +kernel
theorem d_gnd_66 : decode Bn2 66 = .ok (.ifCond .eq 5, 3) := by decide +kernel
theorem d_gnd_69 : decode Bn2 69 = .ok (.aload_n 3, 1) := by decide +kernel
theorem d_gnd_70 : decode Bn2 70 = .ok (.areturn, 1) := by decide +kernel
theorem d_gnd_148 : decode Bn2 148 = .ok (.aconst_null, 1) := by decide +kernel
theorem d_gnd_149 : decode Bn2 149 = .ok (.areturn, 1) := by decide +kernel
abbrev M_gnd : o_7 := (Yn2, jdk_69_method_13_code, 8, (Option.some (FieldType.object "java/util/HashMap$Node")), ({ frames := 5, cells := 0, slots := 0, locals := 85 } : Room))
theorem pn_gnd : plainFor (o_7.y M_gnd) = true := plainFor_of_name (by first | (simp [plainName, overriddenIn]; done) | decide +kernel)
theorem c_gn0 (K : o_b) (a0 : Array Value) (hw : ∀ d ∈ tables_1, d.before a0 K.Z = true) (m x : Addr) (s : Int32) (vs : List Value) (h : Heap) (F : o_0x K.Z h m s none vs) :
    o_9 K M_gnd #[.ref m, .ref x] [x] h (o_c fun w h' _ => w = .null ∧ h' = h) := by
  obtain ⟨f1, -, f3, f4, f5, f6, f7⟩ := F
  refine o_5a (M := M_gnd) pn_gnd rfl (by first | rfl | exact o_5 (by assumption)) (by first | rfl | exact o_5 (by assumption)) ?_
  refine o_1 (pc' := 1) rfl d_gnd_0 rfl (by first | rfl | assumption) ?_
  refine o_q (pc' := 4) rfl d_gnd_1 (tw_240 hw) Via.refl f5 ?_
  refine o_0a (pc' := 5) rfl d_gnd_4 (by first | rfl | assumption) ?_
  refine o_23 (pc' := 6) rfl d_gnd_5 (by first | exact One.u | exact One.val rfl | assumption | exact One.val (by assumption)) (by first | rfl | assumption) ?_
  refine o_3n (pc' := 148) d_gnd_6 (by decide) (by decide) ?_
  refine o_1c (pc' := 149) rfl d_gnd_148 ?_
  refine o_i rfl rfl (by first | rfl | assumption) d_gnd_149 rfl rfl ?_
  exact ⟨rfl, rfl⟩
theorem c_gn1 (K : o_b) (a0 : Array Value) (hw : ∀ d ∈ tables_1, d.before a0 K.Z = true) (g : Int32) (SC : Sta K.Z K.Z.heap o_l "COMPACT_STRINGS" "Z" (.int g)) (hg : ¬ g = 0) (m x t : Addr) (s : Int32) (vs : List Value) (I : Nat) (cs : List Int32) (n0 : Int32) (h : Heap) (F : o_0x K.Z h m s (some t) vs) (S : o_0j K.Z h x cs n0) (hn0 : n0 = 0 ∨ n0 = o_m cs) (h0 : ¬ o_m cs = 0) (hx : o_m cs ^^^ XT.ushr (o_m cs) 16 = o_m cs) (LH : ∀ (b : Addr) (h : Heap), Exa K.Z h b "[B" → o_g K.Z h b .byte (o_p (cs.map o_04)) → o_9 K M_lhc #[.ref b] [] h (o_c fun w h' _ => w = .int (o_m cs) ∧ h' = h)) (hI : (((16 : Int32) - 1) &&& o_m cs).toInt = I) (o : Option (Addr × Addr × Addr)) (ho : match o with | none => vs[I]? = some .null | some (n, k, v) => vs[I]? = some (.ref n) ∧ o_21 K.Z h n (o_m cs) k v ∧ o_h K.Z h k cs) :
    o_9 K M_gnd #[.ref m, .ref x] [x] h (o_c fun w h' _ => w = (match o with | none => .null | some z => .ref z.1) ∧ (h' = h ∨ Wr h h' x (RoadKit.slotOf K.Z o_l "hash" "I") (.int (o_m cs))) ∧ o_0j K.Z h' x cs (o_m cs)) := by
  have nmx : m ≠ x := ne_exa F.1 S.2.2.2.1 (by decide)
  have ntx : t ≠ x := o_19 F.2.2.2.2.2.2.ary S.2.2.2.1 (tw_10 hw)
  obtain ⟨f1, -, f3, f4, f5, f6, f7⟩ := F
  refine o_5a (M := M_gnd) pn_gnd rfl (by first | rfl | exact o_5 (by assumption)) (by first | rfl | exact o_5 (by assumption)) ?_
  refine o_1 (pc' := 1) rfl d_gnd_0 rfl (by first | rfl | assumption) ?_
  refine o_q (pc' := 4) rfl d_gnd_1 (tw_240 hw) Via.refl f5 ?_
  refine o_0a (pc' := 5) rfl d_gnd_4 (by first | rfl | assumption) ?_
  refine o_23 (pc' := 6) rfl d_gnd_5 (by first | exact One.u | exact One.val rfl | assumption | exact One.val (by assumption)) (by first | rfl | assumption) ?_
  refine o_3o (pc' := 9) rfl d_gnd_6 ?_
  refine o_1 (pc' := 10) rfl d_gnd_9 rfl (by first | rfl | assumption) ?_
  refine o_01 (z := 16) (pc' := 11) rfl d_gnd_10 f7.ary (by rw [f4]; rfl) ?_
  refine o_0a (pc' := 12) rfl d_gnd_11 (by first | rfl | assumption) ?_
  refine o_1a (pc' := 14) rfl d_gnd_12 (by first | exact One.u | exact One.val rfl | assumption | exact One.val (by assumption)) ?_
  refine o_2g (pcT := 148) (pcF := 17) d_gnd_14 (by decide) (by decide) rfl (fun q => ?_) (fun q => ?_)
  · exact absurd q (by decide)
  refine o_1 (pc' := 18) rfl d_gnd_17 rfl (by first | rfl | assumption) ?_
  refine o_a (pc' := 20) rfl d_gnd_18 rfl ?_
  refine o_4 (v := (1 : Int32)) (pc' := 21) rfl d_gnd_20 rfl ?_
  refine o_2x (pc' := 22) rfl d_gnd_21 ?_
  refine o_1 (pc' := 23) rfl d_gnd_22 rfl (by first | rfl | assumption) ?_
  refine o_03 (M' := M_hsh) d_gnd_23 (pc' := 26) rfl (tw_420 hw) (tw_421 hw) (tw_142 hw) (tw_422 hw) (by decide) rfl (o_6 pd_25 rfl) rfl rfl rfl rfl (c_hsh K a0 hw g SC hg x cs n0 h S hn0 h0 hx LH) (by simp) ?_
  rintro w h1 xs1 ⟨rfl, q1, S1⟩
  have k1 := o_50 q1
  have g7 := f7.keep k1 (ninS ntx nin0)
  refine o_0a (pc' := 27) rfl d_gnd_26 (by first | rfl | assumption) ?_
  refine o_1w (pc' := 29) rfl d_gnd_27 (by first | exact One.u | exact One.val rfl | assumption | exact One.val (by assumption)) ?_
  refine o_1l (pc' := 30) rfl d_gnd_29 ?_
  cases o with
  | none =>
    refine o_15 (pc' := 31) rfl d_gnd_30 rfl g7.ary (i := I) hI ho ?_
    refine o_0a (pc' := 32) rfl d_gnd_31 (by first | rfl | assumption) ?_
    refine o_2t (pc' := 33) rfl d_gnd_32 (by first | exact One.u | exact One.val rfl | assumption | exact One.val (by assumption)) (by first | rfl | assumption) ?_
    refine o_3n (pc' := 148) d_gnd_33 (by decide) (by decide) ?_
    refine o_1c (pc' := 149) rfl d_gnd_148 ?_
    refine o_i rfl rfl (by first | rfl | assumption) d_gnd_149 rfl rfl ?_
    exact ⟨rfl, q1, S1⟩
  | some z =>
    obtain ⟨n, k, v⟩ := z
    obtain ⟨o1, o2, o3⟩ := ho
    have nnx : n ≠ x := ne_exa o2.1 S.2.2.2.1 (by decide)
    have N1 := o2.keep k1 (ninS nnx nin0)
    have T1 : o_h K.Z h1 k cs := q1.elim (fun e => by rw [e]; exact o3) (fun W => o3.hw hw S.2.2.2.1 W)
    refine o_15 (pc' := 31) rfl d_gnd_30 rfl g7.ary (i := I) hI o1 ?_
    refine o_0a (pc' := 32) rfl d_gnd_31 (by first | rfl | assumption) ?_
    refine o_2t (pc' := 33) rfl d_gnd_32 (by first | exact One.u | exact One.val rfl | assumption | exact One.val (by assumption)) (by first | rfl | assumption) ?_
    refine o_3o (pc' := 36) rfl d_gnd_33 ?_
    refine o_1 (pc' := 37) rfl d_gnd_36 rfl (by first | rfl | assumption) ?_
    refine o_q (pc' := 40) rfl d_gnd_37 (o_0 hw 549 rfl) Via.refl N1.2.1 ?_
    refine o_a (pc' := 42) rfl d_gnd_40 rfl ?_
    refine o_07 (pcT := 71) (pcF := 45) d_gnd_42 (by decide) (by decide) rfl (fun q2 => ?_) (fun q2 => ?_)
    · exact absurd rfl q2
    refine o_1 (pc' := 46) rfl d_gnd_45 rfl (by first | rfl | assumption) ?_
    refine o_q (pc' := 49) rfl d_gnd_46 (o_0 hw 550 rfl) Via.refl N1.2.2.1 ?_
    refine o_0a (pc' := 50) rfl d_gnd_49 (by first | rfl | assumption) ?_
    refine o_41 (pc' := 52) rfl d_gnd_50 (by first | exact One.u | exact One.val rfl | assumption | exact One.val (by assumption)) (by first | rfl | assumption) ?_
    refine o_1 (pc' := 53) rfl d_gnd_52 rfl (by first | rfl | assumption) ?_
    have fin : ∀ sf : List Addr, o_3 K M_gnd (o_c fun w h' _ => w = .ref n ∧ (h' = h ∨ Wr h h' x (RoadKit.slotOf K.Z o_l "hash" "I") (.int (o_m cs))) ∧ o_0j K.Z h' x cs (o_m cs)) 69 [.val (.ref m), .val (.ref x), .val (.ref t), .val (.ref n), .unset, .val (.int 16), .val (.int (o_m cs)), .val (.ref k)] [] sf h1 0 0 := by
      intro sf
      refine o_1 (pc' := 70) rfl d_gnd_69 rfl (by first | rfl | assumption) ?_
      refine o_i rfl rfl (by first | rfl | assumption) d_gnd_70 rfl rfl ?_
      exact ⟨rfl, q1, S1⟩
    refine o_4t (pcT := 69) (pcF := 56) d_gnd_53 (by decide) (by decide) rfl (by first | rfl | assumption) (by first | rfl | assumption) (fun q3 => ?_) (fun q3 => ?_)
    · exact fin _
    refine o_1 (pc' := 57) rfl d_gnd_56 rfl (by first | rfl | assumption) ?_
    refine o_3o (pc' := 60) rfl d_gnd_57 ?_
    refine o_1 (pc' := 61) rfl d_gnd_60 rfl (by first | rfl | assumption) ?_
    refine o_d (pc' := 63) rfl d_gnd_61 rfl (by first | rfl | assumption) ?_
    refine o_5h (M' := M_seq) d_gnd_63 (pc' := 66) rfl (o_0 hw 551 rfl) (tw_114 hw) (tw_502 hw) rfl (tw_116 hw) (tw_117 hw) (tw_2 hw) (tw_118 hw) (by decide) rfl (o_6 pd_27 rfl) rfl rfl rfl rfl S1.2.2.2.1 (c_seq K a0 hw g SC hg x k cs cs h1 S1.str T1) (by simp) ?_
    rintro w h2 xs2 ⟨rfl, rfl⟩
    rw [if_pos rfl]
    refine o_k (pcT := 71) (pcF := 69) d_gnd_66 (by decide) (by decide) rfl (fun q4 => ?_) (fun q4 => ?_)
    · exact absurd q4 (by decide)
    exact o_s (fin _) (fun z hz => hz) (by exact Nat.le_of_ble_eq_true rfl) (by exact Nat.le_of_ble_eq_true rfl)
theorem d_hgt_0 : decode Bn31 0 = .ok (.aload_n 0, 1) := by decide +kernel
theorem d_hgt_1 : decode Bn31 1 = .ok (.aload_n 1, 1) := by decide +kernel
theorem d_hgt_2 : decode Bn31 2 = .ok (.invokevirtual 158, 3) := by decide +kernel
theorem d_hgt_5 : decode Bn31 5 = .ok (.dup, 1) := by decide +kernel
theorem d_hgt_6 : decode Bn31 6 = .ok (.astore_n 2, 1) := by decide +kernel
theorem d_hgt_7 : decode Bn31 7 = .ok (.ifnonnull 7, 3) := by decide +kernel
theorem d_hgt_10 : decode Bn31 10 = .ok (.aconst_null, 1) := by decide +kernel
theorem d_hgt_11 : decode Bn31 11 = .ok (.goto 7, 3) := by decide +kernel
theorem d_hgt_14 : decode Bn31 14 = .ok (.aload_n 2, 1) := by decide +kernel
theorem d_hgt_15 : decode Bn31 15 = .ok (.getfield 162, 3) := by decide +kernel
theorem d_hgt_18 : decode Bn31 18 = .ok (.areturn, 1) := by decide +kernel
abbrev M_hgt : o_7 := (Yn10, jdk_69_method_12_code, 3, (Option.some (FieldType.object "java/lang/Object")), ({ frames := 6, cells := 0, slots := 0, locals := 105 } : Room))
theorem pn_hgt : plainFor (o_7.y M_hgt) = true := plainFor_of_name (by first | (simp [plainName, overriddenIn]; done) | decide +kernel)
theorem c_hg0 (K : o_b) (a0 : Array Value) (hw : ∀ d ∈ tables_1, d.before a0 K.Z = true) (m x : Addr) (s : Int32) (vs : List Value) (h : Heap) (F : o_0x K.Z h m s none vs) :
    o_9 K M_hgt #[.ref m, .ref x] [x] h (o_c fun w h' _ => w = .null ∧ h' = h) := by
  refine o_4h (M := M_hgt) pn_hgt rfl (by first | rfl | exact o_5 (by assumption)) (by first | rfl | exact o_5 (by assumption)) ?_
  refine o_1 (pc' := 1) rfl d_hgt_0 rfl (by first | rfl | assumption) ?_
  refine o_1 (pc' := 2) rfl d_hgt_1 rfl (by first | rfl | assumption) ?_
  refine o_0l (M' := M_gnd) d_hgt_2 (pc' := 5) rfl (tw_235 hw) (tw_236 hw) (tw_238 hw) (tw_237 hw) (tw_142 hw) (tw_239 hw) (by decide) rfl (o_6 pd_28 rfl) rfl rfl rfl rfl F.1 (c_gn0 K a0 hw m x s vs h F) (by simp) ?_
  rintro w h1 xs1 ⟨rfl, rfl⟩
  refine o_0a (pc' := 6) rfl d_hgt_5 (by first | rfl | assumption) ?_
  refine o_23 (pc' := 7) rfl d_hgt_6 (by first | exact One.u | exact One.val rfl | assumption | exact One.val (by assumption)) (by first | rfl | assumption) ?_
  refine o_1x (pc' := 10) rfl d_hgt_7 ?_
  refine o_1c (pc' := 11) rfl d_hgt_10 ?_
  refine o_o (pc' := 18) d_hgt_11 (by decide) (by decide) ?_
  refine o_i rfl rfl (by first | rfl | assumption) d_hgt_18 rfl rfl ?_
  exact ⟨rfl, rfl⟩
theorem c_hg1 (K : o_b) (a0 : Array Value) (hw : ∀ d ∈ tables_1, d.before a0 K.Z = true) (g : Int32) (SC : Sta K.Z K.Z.heap o_l "COMPACT_STRINGS" "Z" (.int g)) (hg : ¬ g = 0) (m x t : Addr) (s : Int32) (vs : List Value) (I : Nat) (cs : List Int32) (n0 : Int32) (h : Heap) (F : o_0x K.Z h m s (some t) vs) (S : o_0j K.Z h x cs n0) (hn0 : n0 = 0 ∨ n0 = o_m cs) (h0 : ¬ o_m cs = 0) (hx : o_m cs ^^^ XT.ushr (o_m cs) 16 = o_m cs) (LH : ∀ (b : Addr) (h : Heap), Exa K.Z h b "[B" → o_g K.Z h b .byte (o_p (cs.map o_04)) → o_9 K M_lhc #[.ref b] [] h (o_c fun w h' _ => w = .int (o_m cs) ∧ h' = h)) (hI : (((16 : Int32) - 1) &&& o_m cs).toInt = I) (o : Option (Addr × Addr × Addr)) (ho : match o with | none => vs[I]? = some .null | some (n, k, v) => vs[I]? = some (.ref n) ∧ o_21 K.Z h n (o_m cs) k v ∧ o_h K.Z h k cs) :
    o_9 K M_hgt #[.ref m, .ref x] [x] h (o_c fun w h' _ => w = (match o with | none => .null | some z => .ref z.2.2) ∧ (h' = h ∨ Wr h h' x (RoadKit.slotOf K.Z o_l "hash" "I") (.int (o_m cs))) ∧ o_0j K.Z h' x cs (o_m cs)) := by
  refine o_4h (M := M_hgt) pn_hgt rfl (by first | rfl | exact o_5 (by assumption)) (by first | rfl | exact o_5 (by assumption)) ?_
  refine o_1 (pc' := 1) rfl d_hgt_0 rfl (by first | rfl | assumption) ?_
  refine o_1 (pc' := 2) rfl d_hgt_1 rfl (by first | rfl | assumption) ?_
  refine o_0l (M' := M_gnd) d_hgt_2 (pc' := 5) rfl (tw_235 hw) (tw_236 hw) (tw_238 hw) (tw_237 hw) (tw_142 hw) (tw_239 hw) (by decide) rfl (o_6 pd_28 rfl) rfl rfl rfl rfl F.1 (c_gn1 K a0 hw g SC hg m x t s vs I cs n0 h F S hn0 h0 hx LH hI o ho) (by simp) ?_
  rintro w h1 xs1 ⟨rfl, q1, S1⟩
  cases o with
  | none =>
    refine o_0a (pc' := 6) rfl d_hgt_5 (by first | rfl | assumption) ?_
    refine o_23 (pc' := 7) rfl d_hgt_6 (by first | exact One.u | exact One.val rfl | assumption | exact One.val (by assumption)) (by first | rfl | assumption) ?_
    refine o_1x (pc' := 10) rfl d_hgt_7 ?_
    refine o_1c (pc' := 11) rfl d_hgt_10 ?_
    refine o_o (pc' := 18) d_hgt_11 (by decide) (by decide) ?_
    refine o_i rfl rfl (by first | rfl | assumption) d_hgt_18 rfl rfl ?_
    exact ⟨rfl, q1, S1⟩
  | some z =>
    obtain ⟨n, k, v⟩ := z
    obtain ⟨o1, o2, o3⟩ := ho
    have nnx : n ≠ x := ne_exa o2.1 S.2.2.2.1 (by decide)
    have N1 := o2.keep (o_50 q1) (ninS nnx nin0)
    refine o_0a (pc' := 6) rfl d_hgt_5 (by first | rfl | assumption) ?_
    refine o_23 (pc' := 7) rfl d_hgt_6 (by first | exact One.u | exact One.val rfl | assumption | exact One.val (by assumption)) (by first | rfl | assumption) ?_
    refine o_3j (pc' := 14) d_hgt_7 (by decide) (by decide) ?_
    refine o_1 (pc' := 15) rfl d_hgt_14 rfl (by first | rfl | assumption) ?_
    refine o_q (pc' := 18) rfl d_hgt_15 (o_0 hw 552 rfl) Via.refl N1.2.2.2 ?_
    refine o_i rfl rfl (by first | rfl | assumption) d_hgt_18 rfl rfl ?_
    exact ⟨rfl, q1, S1⟩
/-! HashMap's constructor, Set.of(e0, e1), Optional (behind hmap.wp, alist.wp) -/
theorem d_ami_0 : decode Bn87 0 = .ok (.aload_n 0, 1) := by decide +kernel
theorem d_ami_1 : decode Bn87 1 = .ok (.invokespecial 1, 3) := by decide +kernel
theorem d_ami_4 : decode Bn87 4 = .ok (.return_, 1) := by decide +kernel
abbrev M_ami : o_7 := (Yn67, jdk_71_method_1_code, 1, (Option.none : Option FieldType), ({ frames := 1, cells := 0, slots := 0, locals := 12 } : Room))
theorem pn_ami : plainFor (o_7.y M_ami) = true := plainFor_of_name (by first | (simp [plainName, overriddenIn]; done) | decide +kernel)
theorem c_ami (K : o_b) (a0 : Array Value) (hw : ∀ d ∈ tables_1, d.before a0 K.Z = true) (t : Addr) (h : Heap) : o_9 K M_ami #[.ref t] [] h (o_09 fun h' _ => h' = h) := by
  refine o_x (M := M_ami) pn_ami rfl (by first | rfl | exact o_5 (by assumption)) ?_
  refine o_1 (pc' := 1) rfl d_ami_0 rfl (by first | rfl | assumption) ?_
  refine o_2w (pc' := 4) rfl d_ami_1 (o_0 hw 152 rfl) (tw_20 hw) (tw_21 hw) rfl rfl rfl ?_
  refine o_0b rfl d_ami_4 rfl rfl ?_
  rfl
theorem d_hin_0 : decode Bn68 0 = .ok (.aload_n 0, 1) := by decide +kernel
theorem d_hin_1 : decode Bn68 1 = .ok (.invokespecial 43, 3) := by decide +kernel
theorem d_hin_4 : decode Bn68 4 = .ok (.aload_n 0, 1) := by decide +kernel
theorem d_hin_5 : decode Bn68 5 = .ok (.ldc 92, 2) := by decide +kernel
theorem d_hin_7 : decode Bn68 7 = .ok (.putfield 81, 3) := by decide +kernel
theorem d_hin_10 : decode Bn68 10 = .ok (.return_, 1) := by decide +kernel
abbrev M_hin : o_7 := (Yn68, jdk_69_method_7_code, 1, (Option.none : Option FieldType), ({ frames := 2, cells := 0, slots := 0, locals := 24 } : Room))
theorem pn_hin : plainFor (o_7.y M_hin) = true := plainFor_of_name (by first | (simp [plainName, overriddenIn]; done) | decide +kernel)
theorem c_hin (K : o_b) (a0 : Array Value) (hw : ∀ d ∈ tables_1, d.before a0 K.Z = true) (m : Addr) (h : Heap) (E : Exa K.Z h m o_0d) (F0 : Fld K.Z h m o_0d "loadFactor" "F" (.float 0)) (F1 : Fld K.Z h m o_0d "modCount" "I" (.int 0)) (F2 : Fld K.Z h m o_0d "size" "I" (.int 0)) (F3 : Fld K.Z h m o_0d "table" o_4m .null) (F4 : Fld K.Z h m o_0d "threshold" "I" (.int 0)) :
    o_9 K M_hin #[.ref m] [m] h (o_09 fun h' _ => Keep h h' [m] ∧ o_0x K.Z h' m 0 none (List.replicate 16 .null)) := by
  have L0 : Laid K.Z a0 o_0d o_0d "loadFactor" "F" := Or.inr (tw_155 hw)
  have L1 : Laid K.Z a0 o_0d o_0d "modCount" "I" := Or.inl (tw_479 hw)
  have L2 : Laid K.Z a0 o_0d o_0d "size" "I" := Or.inl (tw_481 hw)
  have L3 : Laid K.Z a0 o_0d o_0d "table" o_4m := Or.inl (tw_241 hw)
  have L4 : Laid K.Z a0 o_0d o_0d "threshold" "I" := Or.inl (tw_455 hw)
  have s01 := slot_ne L0 L1 (by decide) (t := .float) (t' := .int) (by decide) (by decide)
  have s02 := slot_ne L0 L2 (by decide) (t := .float) (t' := .int) (by decide) (by decide)
  have s03 := slot_ne L0 L3 (by decide) (t := .float) (t' := .array (.object o_16)) (by decide) (by decide)
  have s04 := slot_ne L0 L4 (by decide) (t := .float) (t' := .int) (by decide) (by decide)
  refine o_x (M := M_hin) pn_hin rfl (by first | rfl | exact o_5 (by assumption)) ?_
  refine o_1 (pc' := 1) rfl d_hin_0 rfl (by first | rfl | assumption) ?_
  refine o_10 (M' := M_ami) d_hin_1 (pc' := 4) rfl rfl rfl (o_0 hw 146 rfl) (o_0 hw 147 rfl) (o_0 hw 150 rfl) (o_0 hw 151 rfl) (by decide) rfl (o_6 pd_14 rfl) rfl rfl rfl rfl (c_ami K a0 hw m h) (by simp) ?_
  rintro h1 xs1 rfl
  refine o_1 (pc' := 5) rfl d_hin_4 rfl (by first | rfl | assumption) ?_
  refine o_9d (pc' := 7) rfl d_hin_5 (o_0 hw 153 rfl) ?_
  refine o_06 (pc' := 10) rfl d_hin_7 (o_0 hw 154 rfl) Via.refl (Or.inr ⟨(tw_155 hw), rfl, rfl⟩) (tw_141 hw) (ty := .float) (by decide) rfl rfl F0 E (by simp) ?_
  intro h2 W2
  refine o_0b rfl d_hin_10 rfl rfl ?_
  exact ⟨Keep.of_wr W2, E.wr W2, ⟨0, F1.other W2 (Or.inr (Ne.symm s01))⟩, F2.other W2 (Or.inr (Ne.symm s02)), by simp, F3.other W2 (Or.inr (Ne.symm s03)), F4.other W2 (Or.inr (Ne.symm s04)), rfl⟩
theorem d_rnn_0 : decode Bn76 0 = .ok (.aload_n 0, 1) := by decide +kernel
theorem d_rnn_1 : decode Bn76 1 = .ok (.ifnonnull 11, 3) := by decide +kernel
theorem d_rnn_12 : decode Bn76 12 = .ok (.aload_n 0, 1) := by decide +kernel
theorem d_rnn_13 : decode Bn76 13 = .ok (.areturn, 1) := by decide +kernel
abbrev M_rnn : o_7 := (Yn7, jdk_31_method_10_code, 1, (Option.some (FieldType.object "java/lang/Object")), ({ frames := 0, cells := 0, slots := 0, locals := 0 } : Room))
theorem pn_rnn : plainFor (o_7.y M_rnn) = true := plainFor_of_name (by first | (simp [plainName, overriddenIn]; done) | decide +kernel)
theorem c_rnn (K : o_b) (a0 : Array Value) (hw : ∀ d ∈ tables_1, d.before a0 K.Z = true) (x : Addr) (h : Heap) : o_9 K M_rnn #[.ref x] [] h (o_c fun w h' _ => w = .ref x ∧ h' = h) := by
  refine o_x (M := M_rnn) pn_rnn rfl (by first | rfl | exact o_5 (by assumption)) ?_
  refine o_1 (pc' := 1) rfl d_rnn_0 rfl (by first | rfl | assumption) ?_
  refine o_3j (pc' := 12) d_rnn_1 (by decide) (by decide) ?_
  refine o_1 (pc' := 13) rfl d_rnn_12 rfl (by first | rfl | assumption) ?_
  refine o_i rfl rfl (by first | rfl | assumption) d_rnn_13 rfl rfl ?_
  exact ⟨rfl, rfl⟩
theorem d_aic_0 : decode Bn84 0 = .ok (.aload_n 0, 1) := by decide +kernel
theorem d_aic_1 : decode Bn84 1 = .ok (.invokespecial 1, 3) := by decide +kernel
theorem d_aic_4 : decode Bn84 4 = .ok (.return_, 1) := by decide +kernel
abbrev M_aic : o_7 := (Yn39, jdk_47_method_1_code, 1, (Option.none : Option FieldType), ({ frames := 2, cells := 0, slots := 0, locals := 24 } : Room))
theorem pn_aic : plainFor (o_7.y M_aic) = true := plainFor_of_name (by first | (simp [plainName, overriddenIn]; done) | decide +kernel)
theorem c_aic (K : o_b) (a0 : Array Value) (hw : ∀ d ∈ tables_1, d.before a0 K.Z = true) (t : Addr) (h : Heap) : o_9 K M_aic #[.ref t] [] h (o_09 fun h' _ => h' = h) := by
  refine o_x (M := M_aic) pn_aic rfl (by first | rfl | exact o_5 (by assumption)) ?_
  refine o_1 (pc' := 1) rfl d_aic_0 rfl (by first | rfl | assumption) ?_
  refine o_10 (M' := M_aci) d_aic_1 (pc' := 4) rfl rfl rfl (o_0 hw 107 rfl) (tw_73 hw) (tw_76 hw) (tw_77 hw) (by decide) rfl (o_6 pd_14 rfl) rfl rfl rfl rfl (c_aci K a0 hw t h) (by simp) ?_
  rintro h1 xs1 rfl
  refine o_0b rfl d_aic_4 rfl rfl ?_
  rfl
theorem d_ais_0 : decode Bn88 0 = .ok (.aload_n 0, 1) := by decide +kernel
theorem d_ais_1 : decode Bn88 1 = .ok (.invokespecial 1, 3) := by decide +kernel
theorem d_ais_4 : decode Bn88 4 = .ok (.return_, 1) := by decide +kernel
abbrev M_ais : o_7 := (Yn69, jdk_100_method_1_code, 1, (Option.none : Option FieldType), ({ frames := 3, cells := 0, slots := 0, locals := 36 } : Room))
theorem pn_ais : plainFor (o_7.y M_ais) = true := plainFor_of_name (by first | (simp [plainName, overriddenIn]; done) | decide +kernel)
theorem c_ais (K : o_b) (a0 : Array Value) (hw : ∀ d ∈ tables_1, d.before a0 K.Z = true) (t : Addr) (h : Heap) : o_9 K M_ais #[.ref t] [] h (o_09 fun h' _ => h' = h) := by
  refine o_x (M := M_ais) pn_ais rfl (by first | rfl | exact o_5 (by assumption)) ?_
  refine o_1 (pc' := 1) rfl d_ais_0 rfl (by first | rfl | assumption) ?_
  refine o_10 (M' := M_aic) d_ais_1 (pc' := 4) rfl rfl rfl (o_0 hw 101 rfl) (tw_102 hw) (tw_105 hw) (tw_106 hw) (by decide) rfl (o_6 pd_14 rfl) rfl rfl rfl rfl (c_aic K a0 hw t h) (by simp) ?_
  rintro h1 xs1 rfl
  refine o_0b rfl d_ais_4 rfl rfl ?_
  rfl
abbrev o_3t : String := "java/util/ImmutableCollections$Set12"
def o_4e (Z : State) (h : Heap) (t x y : Addr) : Prop := Exa Z h t o_3t ∧ Fld Z h t o_3t "e0" o_0f (.ref x) ∧ Fld Z h t o_3t "e1" o_0f (.ref y)
theorem o_4e.ext {Z : State} {h h' : Heap} {t x y : Addr} (F : o_4e Z h t x y) (E : Ext h h') : o_4e Z h' t x y := ⟨F.1.ext E, F.2.1.ext E, F.2.2.ext E⟩
theorem d_s2i_0 : decode Bn28 0 = .ok (.aload_n 0, 1) := by decide +kernel
theorem d_s2i_1 : decode Bn28 1 = .ok (.invokespecial 1, 3) := by decide +kernel
theorem d_s2i_4 : decode Bn28 4 = .ok (.aload_n 1, 1) := by decide +kernel
theorem d_s2i_5 : decode Bn28 5 = .ok (.aload_n 2, 1) := by decide +kernel
theorem d_s2i_6 : decode Bn28 6 = .ok (.invokestatic 7, 3) := by decide +kernel
theorem d_s2i_9 : decode Bn28 9 = .ok (.invokevirtual 27, 3) := by decide +kernel
theorem d_s2i_12 : decode Bn28 12 = .ok (.ifCond .eq 30, 3) := by decide +kernel
theorem d_s2i_42 : decode Bn28 42 = .ok (.aload_n 0, 1) := by decide +kernel
theorem d_s2i_43 : decode Bn28 43 = .ok (.aload_n 1, 1) := by decide +kernel
theorem d_s2i_44 : decode Bn28 44 = .ok (.putfield 13, 3) := by decide +kernel
theorem d_s2i_47 : decode Bn28 47 = .ok (.aload_n 0, 1) := by decide +kernel
theorem d_s2i_48 : decode Bn28 48 = .ok (.aload_n 2, 1) := by decide +kernel
theorem d_s2i_49 : decode Bn28 49 = .ok (.putfield 24, 3) := by decide +kernel
theorem d_s2i_52 : decode Bn28 52 = .ok (.return_, 1) := by decide +kernel
abbrev M_s2i : o_7 := (Yn70, jdk_101_method_2_code, 3, (Option.none : Option FieldType), ({ frames := 4, cells := 0, slots := 0, locals := 50 } : Room))
theorem pn_s2i : plainFor (o_7.y M_s2i) = true := plainFor_of_name (by first | (simp [plainName, overriddenIn]; done) | decide +kernel)
theorem c_s2i (K : o_b) (a0 : Array Value) (hw : ∀ d ∈ tables_1, d.before a0 K.Z = true) (g : Int32) (SC : Sta K.Z K.Z.heap o_l "COMPACT_STRINGS" "Z" (.int g)) (hg : ¬ g = 0) (t x y : Addr) (cs ds : List Int32) (h : Heap) (S : o_h K.Z h x cs) (T : o_h K.Z h y ds) (hne : ¬ cs = ds) (E : Exa K.Z h t o_3t) (F1 : Fld K.Z h t o_3t "e0" o_0f .null) (F2 : Fld K.Z h t o_3t "e1" o_0f .null) :
    o_9 K M_s2i #[.ref t, .ref x, .ref y] [t] h (o_09 fun h' _ => Keep h h' [t] ∧ o_4e K.Z h' t x y) := by
  have L1 : Laid K.Z a0 o_3t o_3t "e0" o_0f := Or.inr (tw_123 hw)
  have L2 : Laid K.Z a0 o_3t o_3t "e1" o_0f := Or.inr (tw_125 hw)
  have s12 := slot_ne L1 L2 (by decide) (t := .object "java/lang/Object") (t' := .object "java/lang/Object") (by decide) (by decide)
  refine o_1d (M := M_s2i) pn_s2i rfl (by first | rfl | exact o_5 (by assumption)) (by first | rfl | exact o_5 (by assumption)) (by first | rfl | exact o_5 (by assumption)) ?_
  refine o_1 (pc' := 1) rfl d_s2i_0 rfl (by first | rfl | assumption) ?_
  refine o_10 (M' := M_ais) d_s2i_1 (pc' := 4) rfl rfl rfl (o_0 hw 95 rfl) (o_0 hw 96 rfl) (o_0 hw 99 rfl) (o_0 hw 100 rfl) (by decide) rfl (o_6 pd_14 rfl) rfl rfl rfl rfl (c_ais K a0 hw t h) (by simp) ?_
  rintro h1 xs1 rfl
  refine o_1 (pc' := 5) rfl d_s2i_4 rfl (by first | rfl | assumption) ?_
  refine o_1 (pc' := 6) rfl d_s2i_5 rfl (by first | rfl | assumption) ?_
  refine o_03 (M' := M_rnn) d_s2i_6 (pc' := 9) rfl (o_0 hw 109 rfl) (tw_110 hw) (tw_111 hw) (tw_112 hw) (by decide) rfl (o_6 pd_29 rfl) rfl rfl rfl rfl (c_rnn K a0 hw y h1) (by simp) ?_
  rintro w h2 xs2 ⟨rfl, rfl⟩
  refine o_5h (M' := M_seq) d_s2i_9 (pc' := 12) rfl (tw_113 hw) (tw_114 hw) (tw_502 hw) rfl (tw_116 hw) (tw_117 hw) (tw_2 hw) (tw_118 hw) (by decide) rfl (o_6 pd_27 rfl) rfl rfl rfl rfl S.1 (c_seq K a0 hw g SC hg x y cs ds _ S T) (by simp) ?_
  rintro w h3 xs3 ⟨rfl, rfl⟩
  rw [if_neg hne]
  refine o_k (pcT := 42) (pcF := 15) d_s2i_12 (by decide) (by decide) rfl (fun q => ?_) (fun q => ?_)
  rotate_left 1
  · exact absurd rfl q
  refine o_1 (pc' := 43) rfl d_s2i_42 rfl (by first | rfl | assumption) ?_
  refine o_1 (pc' := 44) rfl d_s2i_43 rfl (by first | rfl | assumption) ?_
  refine o_06 (pc' := 47) rfl d_s2i_44 (tw_122 hw) Via.refl (Or.inr ⟨(tw_123 hw), rfl, rfl⟩) (tw_89 hw) (ty := (.object "java/lang/Object")) (by decide) rfl rfl F1 E (by simp) ?_
  intro h4 W4
  refine o_1 (pc' := 48) rfl d_s2i_47 rfl (by first | rfl | assumption) ?_
  refine o_1 (pc' := 49) rfl d_s2i_48 rfl (by first | rfl | assumption) ?_
  refine o_06 (pc' := 52) rfl d_s2i_49 (tw_124 hw) Via.refl (Or.inr ⟨(tw_125 hw), rfl, rfl⟩) (tw_89 hw) (ty := (.object "java/lang/Object")) (by decide) rfl rfl (F2.other W4 (Or.inr (Ne.symm s12))) (E.wr W4) (by simp) ?_
  intro h5 W5
  refine o_0b rfl d_s2i_52 rfl rfl ?_
  exact ⟨(Keep.of_wr W4).wr W5 (Or.inl (List.mem_singleton.mpr rfl)), (E.wr W4).wr W5, (F1.same W4).other W5 (Or.inr s12), (F2.other W4 (Or.inr (Ne.symm s12))).same W5⟩
theorem d_sof_0 : decode Bn69 0 = .ok (.new 15, 3) := by decide +kernel
theorem d_sof_3 : decode Bn69 3 = .ok (.dup, 1) := by decide +kernel
theorem d_sof_4 : decode Bn69 4 = .ok (.aload_n 0, 1) := by decide +kernel
theorem d_sof_5 : decode Bn69 5 = .ok (.aload_n 1, 1) := by decide +kernel
theorem d_sof_6 : decode Bn69 6 = .ok (.invokespecial 21, 3) := by decide +kernel
theorem d_sof_9 : decode Bn69 9 = .ok (.areturn, 1) := by decide +kernel
abbrev M_sof : o_7 := (Yn71, jdk_96_method_19_code, 2, (Option.some (FieldType.object "java/util/Set")), ({ frames := 5, cells := 1, slots := 2, locals := 66 } : Room))
theorem pn_sof : plainFor (o_7.y M_sof) = true := plainFor_of_name (by first | (simp [plainName, overriddenIn]; done) | decide +kernel)
theorem c_sof (K : o_b) (a0 : Array Value) (hw : ∀ d ∈ tables_1, d.before a0 K.Z = true) (g : Int32) (SC : Sta K.Z K.Z.heap o_l "COMPACT_STRINGS" "Z" (.int g)) (hg : ¬ g = 0) (x y : Addr) (cs ds : List Int32) (h : Heap) (S : o_h K.Z h x cs) (T : o_h K.Z h y ds) (hne : ¬ cs = ds) :
    o_9 K M_sof #[.ref x, .ref y] [] h (o_c fun w h' _ => ∃ t : Addr, w = .ref t ∧ Ext h h' ∧ o_4e K.Z h' t x y) := by
  refine o_08 (M := M_sof) pn_sof rfl (by first | rfl | exact o_5 (by assumption)) (by first | rfl | exact o_5 (by assumption)) ?_
  refine o_29 (pc' := 3) rfl d_sof_0 (o_0 hw 88 rfl) (tw_89 hw) (tw_90 hw) rfl rfl ?_
  intro t h1 et E1 X1 D1
  refine o_0a (pc' := 4) rfl d_sof_3 (by first | rfl | assumption) ?_
  refine o_1 (pc' := 5) rfl d_sof_4 rfl (by first | rfl | assumption) ?_
  refine o_1 (pc' := 6) rfl d_sof_5 rfl (by first | rfl | assumption) ?_
  refine o_3v (M' := M_s2i) d_sof_6 (pc' := 9) rfl rfl rfl (o_0 hw 91 rfl) (o_0 hw 92 rfl) (tw_90 hw) (o_0 hw 94 rfl) (by decide) rfl (o_6 pd_30 rfl) rfl rfl rfl rfl (c_s2i K a0 hw g SC hg t x y cs ds h1 (S.ext E1) (T.ext E1) hne X1 (D1 (Or.inr (tw_123 hw)) (ty := .object "java/lang/Object") (by decide)) (D1 (Or.inr (tw_125 hw)) (ty := .object "java/lang/Object") (by decide))) (by simp) ?_
  rintro h2 xs2 ⟨k2, T2⟩
  refine o_i rfl rfl (by first | rfl | assumption) d_sof_9 rfl rfl ?_
  exact ⟨t, rfl, o_f E1 k2 (by intro z hz; cases List.mem_singleton.mp hz; omega), T2⟩
theorem d_s2c_0 : decode Bn29 0 = .ok (.aload_n 1, 1) := by decide +kernel
theorem d_s2c_1 : decode Bn29 1 = .ok (.aload_n 0, 1) := by decide +kernel
theorem d_s2c_2 : decode Bn29 2 = .ok (.getfield 13, 3) := by decide +kernel
theorem d_s2c_5 : decode Bn29 5 = .ok (.invokevirtual 27, 3) := by decide +kernel
theorem d_s2c_8 : decode Bn29 8 = .ok (.ifCond .ne 14, 3) := by decide +kernel
theorem d_s2c_11 : decode Bn29 11 = .ok (.aload_n 0, 1) := by decide +kernel
theorem d_s2c_12 : decode Bn29 12 = .ok (.getfield 24, 3) := by decide +kernel
theorem d_s2c_15 : decode Bn29 15 = .ok (.aload_n 1, 1) := by decide +kernel
theorem d_s2c_16 : decode Bn29 16 = .ok (.invokevirtual 27, 3) := by decide +kernel
theorem d_s2c_19 : decode Bn29 19 = .ok (.ifCond .eq 7, 3) := by decide +kernel
theorem d_s2c_22 : decode Bn29 22 = .ok (.iconst 1, 1) := by decide +kernel
theorem d_s2c_23 : decode Bn29 23 = .ok (.goto 4, 3) := by decide +kernel
theorem d_s2c_27 : decode Bn29 27 = .ok (.ireturn, 1) := by decide +kernel
abbrev M_s2c : o_7 := (Yn72, jdk_101_method_5_code, 2, (Option.some FieldType.boolean), ({ frames := 2, cells := 0, slots := 0, locals := 30 } : Room))
theorem pn_s2c : plainFor (o_7.y M_s2c) = true := plainFor_of_name (by first | (simp [plainName, overriddenIn]; done) | decide +kernel)
theorem c_s2c (K : o_b) (a0 : Array Value) (hw : ∀ d ∈ tables_1, d.before a0 K.Z = true) (g : Int32) (SC : Sta K.Z K.Z.heap o_l "COMPACT_STRINGS" "Z" (.int g)) (hg : ¬ g = 0) (t x y z : Addr) (cs ds es : List Int32) (h : Heap) (S : o_h K.Z h x cs) (T : o_h K.Z h y ds) (U : o_h K.Z h z es) (F : o_4e K.Z h t x y) (he : es = cs ∨ ds = es) :
    o_9 K M_s2c #[.ref t, .ref z] [] h (o_c fun w h' _ => w = .int 1 ∧ h' = h) := by
  obtain ⟨f1, f2, f3⟩ := F
  have fin : ∀ sf : List Addr, o_3 K M_s2c (o_c fun w h' _ => w = .int 1 ∧ h' = h) 22 [.val (.ref t), .val (.ref z)] [] sf h 0 0 := by
    intro sf
    refine o_4 (v := (1 : Int32)) (pc' := 23) rfl d_s2c_22 rfl ?_
    refine o_o (pc' := 27) d_s2c_23 (by decide) (by decide) ?_
    refine o_y (t := .boolean) rfl (by simp) (by first | exact o_0v | exact o_0w | rfl) d_s2c_27 rfl rfl ?_
    exact ⟨rfl, rfl⟩
  refine o_08 (M := M_s2c) pn_s2c rfl (by first | rfl | exact o_5 (by assumption)) (by first | rfl | exact o_5 (by assumption)) ?_
  refine o_1 (pc' := 1) rfl d_s2c_0 rfl (by first | rfl | assumption) ?_
  refine o_1 (pc' := 2) rfl d_s2c_1 rfl (by first | rfl | assumption) ?_
  refine o_q (pc' := 5) rfl d_s2c_2 (tw_122 hw) Via.refl f2 ?_
  refine o_5h (M' := M_seq) d_s2c_5 (pc' := 8) rfl (tw_113 hw) (tw_114 hw) (tw_502 hw) rfl (tw_116 hw) (tw_117 hw) (tw_2 hw) (tw_118 hw) (by decide) rfl (o_6 pd_27 rfl) rfl rfl rfl rfl U.1 (c_seq K a0 hw g SC hg z x es cs h U S) (by simp) ?_
  rintro w h1 xs1 ⟨rfl, rfl⟩
  by_cases q0 : es = cs
  · rw [if_pos q0]
    refine o_0k (pcT := 22) (pcF := 11) d_s2c_8 (by decide) (by decide) rfl (fun q => ?_) (fun q => ?_)
    rotate_left 1
    · exact absurd q (by decide)
    exact o_s (fin _) (fun z hz => hz) (by exact Nat.le_of_ble_eq_true rfl) (by exact Nat.le_of_ble_eq_true rfl)
  · rw [if_neg q0]
    refine o_0k (pcT := 22) (pcF := 11) d_s2c_8 (by decide) (by decide) rfl (fun q => ?_) (fun q => ?_)
    · exact absurd rfl q
    refine o_1 (pc' := 12) rfl d_s2c_11 rfl (by first | rfl | assumption) ?_
    refine o_q (pc' := 15) rfl d_s2c_12 (tw_124 hw) Via.refl f3 ?_
    refine o_1 (pc' := 16) rfl d_s2c_15 rfl (by first | rfl | assumption) ?_
    refine o_5h (M' := M_seq) d_s2c_16 (pc' := 19) rfl (tw_113 hw) (tw_114 hw) (tw_502 hw) rfl (tw_116 hw) (tw_117 hw) (tw_2 hw) (tw_118 hw) (by decide) rfl (o_6 pd_27 rfl) rfl rfl rfl rfl T.1 (c_seq K a0 hw g SC hg y z ds es _ T U) (by simp) ?_
    rintro w h2 xs2 ⟨rfl, rfl⟩
    rw [if_pos (he.resolve_left q0)]
    refine o_k (pcT := 26) (pcF := 22) d_s2c_19 (by decide) (by decide) rfl (fun q2 => ?_) (fun q2 => ?_)
    · exact absurd q2 (by decide)
    exact o_s (fin _) (fun z hz => hz) (by exact Nat.le_of_ble_eq_true rfl) (by exact Nat.le_of_ble_eq_true rfl)
abbrev o_1q : String := "java/util/Optional"
theorem d_opi_0 : decode Bn70 0 = .ok (.aload_n 0, 1) := by decide +kernel
theorem d_opi_1 : decode Bn70 1 = .ok (.invokespecial 7, 3) := by decide +kernel
theorem d_opi_4 : decode Bn70 4 = .ok (.aload_n 0, 1) := by decide +kernel
theorem d_opi_5 : decode Bn70 5 = .ok (.aload_n 1, 1) := by decide +kernel
theorem d_opi_6 : decode Bn70 6 = .ok (.putfield 13, 3) := by decide +kernel
theorem d_opi_9 : decode Bn70 9 = .ok (.return_, 1) := by decide +kernel
abbrev M_opi : o_7 := (Yn73, jdk_32_method_2_code, 2, (Option.none : Option FieldType), ({ frames := 1, cells := 0, slots := 0, locals := 12 } : Room))
theorem pn_opi : plainFor (o_7.y M_opi) = true := plainFor_of_name (by first | (simp [plainName, overriddenIn]; done) | decide +kernel)
theorem c_opi (K : o_b) (a0 : Array Value) (hw : ∀ d ∈ tables_1, d.before a0 K.Z = true) (t v : Addr) (h : Heap) (E : Exa K.Z h t o_1q) (F : Fld K.Z h t o_1q "value" o_0f .null) : o_9 K M_opi #[.ref t, .ref v] [t] h (o_09 fun h' _ => Keep h h' [t] ∧ Fld K.Z h' t o_1q "value" o_0f (.ref v)) := by
  refine o_08 (M := M_opi) pn_opi rfl (by first | rfl | exact o_5 (by assumption)) (by first | rfl | exact o_5 (by assumption)) ?_
  refine o_1 (pc' := 1) rfl d_opi_0 rfl (by first | rfl | assumption) ?_
  refine o_2w (pc' := 4) rfl d_opi_1 (o_0 hw 559 rfl) (tw_20 hw) (tw_21 hw) rfl rfl rfl ?_
  refine o_1 (pc' := 5) rfl d_opi_4 rfl (by first | rfl | assumption) ?_
  refine o_1 (pc' := 6) rfl d_opi_5 rfl (by first | rfl | assumption) ?_
  refine o_06 (pc' := 9) rfl d_opi_6 (tw_252 hw) Via.refl (Or.inr ⟨(tw_253 hw), rfl, rfl⟩) (tw_554 hw) (ty := (.object "java/lang/Object")) (by decide) rfl rfl F E (by simp) ?_
  intro h1 W1
  refine o_0b rfl d_opi_9 rfl rfl ?_
  exact ⟨Keep.of_wr W1, F.same W1⟩
theorem d_opn_0 : decode Bn38 0 = .ok (.aload_n 0, 1) := by decide +kernel
theorem d_opn_1 : decode Bn38 1 = .ok (.ifnonnull 9, 3) := by decide +kernel
theorem d_opn_4 : decode Bn38 4 = .ok (.getstatic 1, 3) := by decide +kernel
theorem d_opn_7 : decode Bn38 7 = .ok (.goto 11, 3) := by decide +kernel
theorem d_opn_10 : decode Bn38 10 = .ok (.new 2, 3) := by decide +kernel
theorem d_opn_13 : decode Bn38 13 = .ok (.dup, 1) := by decide +kernel
theorem d_opn_14 : decode Bn38 14 = .ok (.aload_n 0, 1) := by decide +kernel
theorem d_opn_15 : decode Bn38 15 = .ok (.invokespecial 23, 3) := by decide +kernel
theorem d_opn_18 : decode Bn38 18 = .ok (.areturn, 1) := by decide +kernel
abbrev M_opn : o_7 := (Yn27, jdk_32_method_4_code, 1, (Option.some (FieldType.object "java/util/Optional")), ({ frames := 2, cells := 1, slots := 1, locals := 28 } : Room))
theorem pn_opn : plainFor (o_7.y M_opn) = true := plainFor_of_name (by first | (simp [plainName, overriddenIn]; done) | decide +kernel)
theorem c_opn0 (K : o_b) (a0 : Array Value) (hw : ∀ d ∈ tables_1, d.before a0 K.Z = true) (e : Addr) (SE : Sta K.Z K.Z.heap o_1q "EMPTY" "Ljava/util/Optional;" (.ref e)) (h : Heap) : o_9 K M_opn #[.null] [] h (o_c fun w h' _ => w = .ref e ∧ h' = h) := by
  refine o_x (M := M_opn) pn_opn rfl (by first | rfl | exact o_5 (by assumption)) ?_
  refine o_1 (pc' := 1) rfl d_opn_0 rfl (by first | rfl | assumption) ?_
  refine o_1x (pc' := 4) rfl d_opn_1 ?_
  refine o_2o (pc' := 7) rfl d_opn_4 (o_0 hw 246 rfl) Via.refl SE ?_
  refine o_o (pc' := 18) d_opn_7 (by decide) (by decide) ?_
  refine o_i rfl rfl (by first | rfl | assumption) d_opn_18 rfl rfl ?_
  exact ⟨rfl, rfl⟩
theorem c_opn1 (K : o_b) (a0 : Array Value) (hw : ∀ d ∈ tables_1, d.before a0 K.Z = true) (v : Addr) (h : Heap) : o_9 K M_opn #[.ref v] [] h (o_c fun w h' _ => ∃ t : Addr, w = .ref t ∧ Ext h h' ∧ Exa K.Z h' t o_1q ∧ Fld K.Z h' t o_1q "value" o_0f (.ref v)) := by
  refine o_x (M := M_opn) pn_opn rfl (by first | rfl | exact o_5 (by assumption)) ?_
  refine o_1 (pc' := 1) rfl d_opn_0 rfl (by first | rfl | assumption) ?_
  refine o_3j (pc' := 10) d_opn_1 (by decide) (by decide) ?_
  refine o_29 (pc' := 13) rfl d_opn_10 (o_0 hw 553 rfl) (tw_554 hw) (tw_244 hw) rfl rfl ?_
  intro t h1 et E1 X1 D1
  refine o_0a (pc' := 14) rfl d_opn_13 (by first | rfl | assumption) ?_
  refine o_1 (pc' := 15) rfl d_opn_14 rfl (by first | rfl | assumption) ?_
  refine o_35 (M' := M_opi) d_opn_15 (pc' := 18) rfl rfl rfl (o_0 hw 555 rfl) (o_0 hw 556 rfl) (tw_244 hw) (o_0 hw 558 rfl) (by decide) rfl (o_6 pd_31 rfl) rfl rfl rfl rfl (c_opi K a0 hw t v h1 X1 (D1 (Or.inr (tw_253 hw)) (ty := .object "java/lang/Object") (by decide))) (by simp) ?_
  rintro h2 xs2 ⟨k2, F2⟩
  refine o_i rfl rfl (by first | rfl | assumption) d_opn_18 rfl rfl ?_
  exact ⟨t, rfl, o_f E1 k2 (by intro z hz; cases List.mem_singleton.mp hz; omega), X1.keep k2, F2⟩
theorem d_ope_0 : decode Bn71 0 = .ok (.aload_n 0, 1) := by decide +kernel
theorem d_ope_1 : decode Bn71 1 = .ok (.getfield 13, 3) := by decide +kernel
theorem d_ope_4 : decode Bn71 4 = .ok (.ifnonnull 7, 3) := by decide +kernel
theorem d_ope_7 : decode Bn71 7 = .ok (.iconst 1, 1) := by decide +kernel
theorem d_ope_8 : decode Bn71 8 = .ok (.goto 4, 3) := by decide +kernel
theorem d_ope_12 : decode Bn71 12 = .ok (.ireturn, 1) := by decide +kernel
abbrev M_ope : o_7 := (Yn74, jdk_32_method_7_code, 1, (Option.some FieldType.boolean), ({ frames := 0, cells := 0, slots := 0, locals := 0 } : Room))
theorem pn_ope : plainFor (o_7.y M_ope) = true := plainFor_of_name (by first | (simp [plainName, overriddenIn]; done) | decide +kernel)
theorem c_ope (K : o_b) (a0 : Array Value) (hw : ∀ d ∈ tables_1, d.before a0 K.Z = true) (t : Addr) (h : Heap) (F : Fld K.Z h t o_1q "value" o_0f .null) : o_9 K M_ope #[.ref t] [] h (o_c fun w h' _ => w = .int 1 ∧ h' = h) := by
  refine o_x (M := M_ope) pn_ope rfl (by first | rfl | exact o_5 (by assumption)) ?_
  refine o_1 (pc' := 1) rfl d_ope_0 rfl (by first | rfl | assumption) ?_
  refine o_q (pc' := 4) rfl d_ope_1 (tw_252 hw) Via.refl F ?_
  refine o_1x (pc' := 7) rfl d_ope_4 ?_
  refine o_4 (v := (1 : Int32)) (pc' := 8) rfl d_ope_7 rfl ?_
  refine o_o (pc' := 12) d_ope_8 (by decide) (by decide) ?_
  refine o_y (t := .boolean) rfl (by simp) (by first | exact o_0v | exact o_0w | rfl) d_ope_12 rfl rfl ?_
  exact ⟨rfl, rfl⟩
theorem d_oot_0 : decode Bn72 0 = .ok (.aload_n 0, 1) := by decide +kernel
theorem d_oot_1 : decode Bn72 1 = .ok (.getfield 13, 3) := by decide +kernel
theorem d_oot_4 : decode Bn72 4 = .ok (.ifnull 8, 3) := by decide +kernel
theorem d_oot_7 : decode Bn72 7 = .ok (.aload_n 0, 1) := by decide +kernel
theorem d_oot_8 : decode Bn72 8 = .ok (.getfield 13, 3) := by decide +kernel
theorem d_oot_11 : decode Bn72 11 = .ok (.areturn, 1) := by decide +kernel
abbrev M_oot : o_7 := (Yn75, jdk_32_method_18_code, 2, (Option.some (FieldType.object "java/lang/Object")), ({ frames := 0, cells := 0, slots := 0, locals := 0 } : Room))
theorem pn_oot : plainFor (o_7.y M_oot) = true := plainFor_of_name (by first | (simp [plainName, overriddenIn]; done) | decide +kernel)
theorem c_oot (K : o_b) (a0 : Array Value) (hw : ∀ d ∈ tables_1, d.before a0 K.Z = true) (t u v : Addr) (h : Heap) (F : Fld K.Z h t o_1q "value" o_0f (.ref v)) : o_9 K M_oot #[.ref t, .ref u] [] h (o_c fun w h' _ => w = .ref v ∧ h' = h) := by
  refine o_08 (M := M_oot) pn_oot rfl (by first | rfl | exact o_5 (by assumption)) (by first | rfl | exact o_5 (by assumption)) ?_
  refine o_1 (pc' := 1) rfl d_oot_0 rfl (by first | rfl | assumption) ?_
  refine o_q (pc' := 4) rfl d_oot_1 (tw_252 hw) Via.refl F ?_
  refine o_3o (pc' := 7) rfl d_oot_4 ?_
  refine o_1 (pc' := 8) rfl d_oot_7 rfl (by first | rfl | assumption) ?_
  refine o_q (pc' := 11) rfl d_oot_8 (tw_252 hw) Via.refl F ?_
  refine o_i rfl rfl (by first | rfl | assumption) d_oot_11 rfl rfl ?_
  exact ⟨rfl, rfl⟩
/-! the law's own helpers: len, present, mode, word, flag -/
def o_0y (p : Int32) : Int32 := (XT.ushr p 16 &&& 3) % 3
def o_j (p : Int32) : Int32 := (XT.ushr p 18 &&& 3) % 3
theorem o_51 (z : Int32) : ((z &&& 3) % 3 = 0 ∨ (z &&& 3) % 3 = 1 ∨ (z &&& 3) % 3 = 2) := by
  have hx := c_mask z 3 2 (by decide) (by decide)
  have v3 : (3 : Int32).toInt = 3 := rfl
  have hk := (c_iremV (z &&& 3) 3).1 (by rw [hx]; omega) (by decide)
  rcases (show ((z &&& 3) % 3).toInt = 0 ∨ ((z &&& 3) % 3).toInt = 1 ∨ ((z &&& 3) % 3).toInt = 2 by omega) with q | q | q
  · exact Or.inl (Int32.toInt_inj.mp (by rw [q]; rfl))
  · exact Or.inr (Or.inl (Int32.toInt_inj.mp (by rw [q]; rfl)))
  · exact Or.inr (Or.inr (Int32.toInt_inj.mp (by rw [q]; rfl)))
def o_1s (p : Int32) : Int32 := o_7x (p &&& 255)
def o_2p (p : Int32) : Int32 := o_7x (XT.ushr p 8 &&& 255)
theorem o_6t (z : Int32) : o_7x (z &&& 255) = z &&& 255 := o_2b (o_4d z).1 (o_4d z).2.2
theorem o_52 (p : Int32) : 0 ≤ (o_1s p).toInt ∧ (o_1s p).toInt < 256 := by unfold o_1s; rw [o_6t]; exact ⟨(o_4d p).1, (o_4d p).2.1⟩
theorem o_5j (p : Int32) : 0 ≤ (o_2p p).toInt ∧ (o_2p p).toInt < 256 := by unfold o_2p; rw [o_6t]; exact ⟨(o_4d _).1, (o_4d _).2.1⟩
/-- the chars that the number p and its length give -/
def o_1h (n a b : Int32) : List Int32 := if n = 0 then [] else if n = 1 then [a] else [a, b]
/-- an operand is never two dashes -/
def o_3u (p b : Int32) : Int32 := if ¬ b = 0 ∧ o_0y p = 2 ∧ o_1s p = 45 ∧ o_2p p = 45 then 43 else o_2p p
def o_v (p b : Int32) : List Int32 := o_1h (o_0y p) (o_1s p) (o_3u p b)
theorem o_81 (p b : Int32) : 0 ≤ (o_3u p b).toInt ∧ (o_3u p b).toInt < 256 := by
  unfold o_3u
  split
  · decide
  · exact o_5j p
theorem o_4j {n a b : Int32} (ha : 0 ≤ a.toInt ∧ a.toInt < 256) (hb : 0 ≤ b.toInt ∧ b.toInt < 256) : o_0i (o_1h n a b) ∧ o_n (o_1h n a b) = true ∧ (o_1h n a b).length ≤ 2 := by
  unfold o_1h
  split
  · exact ⟨fun c hc => (nomatch hc), rfl, by simp⟩
  · split
    · refine ⟨fun c hc => ?_, by simp [o_n, ha], by simp⟩
      cases List.mem_singleton.mp hc; omega
    · refine ⟨fun c hc => ?_, by simp [o_n, ha, hb], by simp⟩
      simp only [List.mem_cons, List.not_mem_nil, or_false] at hc
      rcases hc with rfl | rfl <;> omega
theorem d_lln_0 : decode method_2_code 0 = .ok (.iload_n 0, 1) := by decide +kernel
theorem d_lln_1 : decode method_2_code 1 = .ok (.bipush 16, 2) := by decide +kernel
theorem d_lln_3 : decode method_2_code 3 = .ok (.iushr, 1) := by decide +kernel
theorem d_lln_4 : decode method_2_code 4 = .ok (.iconst 3, 1) := by decide +kernel
theorem d_lln_5 : decode method_2_code 5 = .ok (.iand, 1) := by decide +kernel
theorem d_lln_6 : decode method_2_code 6 = .ok (.iconst 3, 1) := by decide +kernel
theorem d_lln_7 : decode method_2_code 7 = .ok (.irem, 1) := by decide +kernel
theorem d_lln_8 : decode method_2_code 8 = .ok (.ireturn, 1) := by decide +kernel
abbrev M_lln : o_7 := (Yn22, method_2_code, 1, (Option.some FieldType.int), ({ frames := 0, cells := 0, slots := 0, locals := 0 } : Room))
theorem pn_lln : plainFor (o_7.y M_lln) = true := plainFor_of_name (by first | (simp [plainName, overriddenIn]; done) | decide +kernel)
theorem c_lln (K : o_b) (a0 : Array Value) (hw : ∀ d ∈ tables_1, d.before a0 K.Z = true) (p : Int32) (h : Heap) : o_9 K M_lln #[.int p] [] h (o_c fun w h' _ => w = .int (o_0y p) ∧ h' = h) := by
  refine o_x (M := M_lln) pn_lln rfl (by first | rfl | exact o_5 (by assumption)) ?_
  refine o_2 (pc' := 1) rfl d_lln_0 rfl ?_
  refine o_u (v := (16 : Int32)) (pc' := 3) rfl d_lln_1 rfl ?_
  refine o_2e (pc' := 4) rfl d_lln_3 ?_
  refine o_4 (v := (3 : Int32)) (pc' := 5) rfl d_lln_4 rfl ?_
  refine o_1l (pc' := 6) rfl d_lln_5 ?_
  refine o_4 (v := (3 : Int32)) (pc' := 7) rfl d_lln_6 rfl ?_
  refine o_7q (pc' := 8) rfl d_lln_7 (by decide) ?_
  refine o_00 rfl d_lln_8 rfl rfl ?_
  exact ⟨rfl, rfl⟩
theorem d_lmd_0 : decode method_4_code 0 = .ok (.iload_n 0, 1) := by decide +kernel
theorem d_lmd_1 : decode method_4_code 1 = .ok (.bipush 18, 2) := by decide +kernel
theorem d_lmd_3 : decode method_4_code 3 = .ok (.iushr, 1) := by decide +kernel
theorem d_lmd_4 : decode method_4_code 4 = .ok (.iconst 3, 1) := by decide +kernel
theorem d_lmd_5 : decode method_4_code 5 = .ok (.iand, 1) := by decide +kernel
theorem d_lmd_6 : decode method_4_code 6 = .ok (.iconst 3, 1) := by decide +kernel
theorem d_lmd_7 : decode method_4_code 7 = .ok (.irem, 1) := by decide +kernel
theorem d_lmd_8 : decode method_4_code 8 = .ok (.ireturn, 1) := by decide +kernel
abbrev M_lmd : o_7 := (Yn24, method_4_code, 1, (Option.some FieldType.int), ({ frames := 0, cells := 0, slots := 0, locals := 0 } : Room))
theorem pn_lmd : plainFor (o_7.y M_lmd) = true := plainFor_of_name (by first | (simp [plainName, overriddenIn]; done) | decide +kernel)
theorem c_lmd (K : o_b) (a0 : Array Value) (hw : ∀ d ∈ tables_1, d.before a0 K.Z = true) (p : Int32) (h : Heap) : o_9 K M_lmd #[.int p] [] h (o_c fun w h' _ => w = .int (o_j p) ∧ h' = h) := by
  refine o_x (M := M_lmd) pn_lmd rfl (by first | rfl | exact o_5 (by assumption)) ?_
  refine o_2 (pc' := 1) rfl d_lmd_0 rfl ?_
  refine o_u (v := (18 : Int32)) (pc' := 3) rfl d_lmd_1 rfl ?_
  refine o_2e (pc' := 4) rfl d_lmd_3 ?_
  refine o_4 (v := (3 : Int32)) (pc' := 5) rfl d_lmd_4 rfl ?_
  refine o_1l (pc' := 6) rfl d_lmd_5 ?_
  refine o_4 (v := (3 : Int32)) (pc' := 7) rfl d_lmd_6 rfl ?_
  refine o_7q (pc' := 8) rfl d_lmd_7 (by decide) ?_
  refine o_00 rfl d_lmd_8 rfl rfl ?_
  exact ⟨rfl, rfl⟩
theorem d_lpr_0 : decode method_3_code 0 = .ok (.iload_n 0, 1) := by decide +kernel
theorem d_lpr_1 : decode method_3_code 1 = .ok (.bipush 18, 2) := by decide +kernel
theorem d_lpr_3 : decode method_3_code 3 = .ok (.iushr, 1) := by decide +kernel
theorem d_lpr_4 : decode method_3_code 4 = .ok (.iconst 1, 1) := by decide +kernel
theorem d_lpr_5 : decode method_3_code 5 = .ok (.iand, 1) := by decide +kernel
theorem d_lpr_6 : decode method_3_code 6 = .ok (.ifCond .eq 7, 3) := by decide +kernel
theorem d_lpr_9 : decode method_3_code 9 = .ok (.iconst 1, 1) := by decide +kernel
theorem d_lpr_10 : decode method_3_code 10 = .ok (.goto 4, 3) := by decide +kernel
theorem d_lpr_13 : decode method_3_code 13 = .ok (.iconst 0, 1) := by decide +kernel
theorem d_lpr_14 : decode method_3_code 14 = .ok (.ireturn, 1) := by decide +kernel
abbrev M_lpr : o_7 := (Yn23, method_3_code, 1, (Option.some FieldType.boolean), ({ frames := 0, cells := 0, slots := 0, locals := 0 } : Room))
theorem pn_lpr : plainFor (o_7.y M_lpr) = true := plainFor_of_name (by first | (simp [plainName, overriddenIn]; done) | decide +kernel)
theorem c_lpr (K : o_b) (a0 : Array Value) (hw : ∀ d ∈ tables_1, d.before a0 K.Z = true) (p : Int32) (h : Heap) : o_9 K M_lpr #[.int p] [] h (o_c fun w h' _ => ∃ b : Bool, w = .int (if b then 1 else 0) ∧ h' = h) := by
  refine o_x (M := M_lpr) pn_lpr rfl (by first | rfl | exact o_5 (by assumption)) ?_
  refine o_2 (pc' := 1) rfl d_lpr_0 rfl ?_
  refine o_u (v := (18 : Int32)) (pc' := 3) rfl d_lpr_1 rfl ?_
  refine o_2e (pc' := 4) rfl d_lpr_3 ?_
  refine o_4 (v := (1 : Int32)) (pc' := 5) rfl d_lpr_4 rfl ?_
  refine o_1l (pc' := 6) rfl d_lpr_5 ?_
  refine o_k (pcT := 13) (pcF := 9) d_lpr_6 (by decide) (by decide) rfl (fun q => ?_) (fun q => ?_)
  · skip
    refine o_4 (v := (0 : Int32)) (pc' := 14) rfl d_lpr_13 rfl ?_
    refine o_y (t := .boolean) rfl (by simp) (by first | exact o_0v | exact o_0w | rfl) d_lpr_14 rfl rfl ?_
    exact ⟨false, rfl, rfl⟩
  · skip
    refine o_4 (v := (1 : Int32)) (pc' := 10) rfl d_lpr_9 rfl ?_
    refine o_o (pc' := 14) d_lpr_10 (by decide) (by decide) ?_
    refine o_y (t := .boolean) rfl (by simp) (by first | exact o_0v | exact o_0w | rfl) d_lpr_14 rfl rfl ?_
    exact ⟨true, rfl, rfl⟩
theorem d_lwd_0 : decode method_5_code 0 = .ok (.iload_n 0, 1) := by decide +kernel
theorem d_lwd_1 : decode method_5_code 1 = .ok (.invokestatic 7, 3) := by decide +kernel
theorem d_lwd_4 : decode method_5_code 4 = .ok (.istore_n 2, 1) := by decide +kernel
theorem d_lwd_5 : decode method_5_code 5 = .ok (.iload_n 0, 1) := by decide +kernel
theorem d_lwd_6 : decode method_5_code 6 = .ok (.sipush 255, 3) := by decide +kernel
theorem d_lwd_9 : decode method_5_code 9 = .ok (.iand, 1) := by decide +kernel
theorem d_lwd_10 : decode method_5_code 10 = .ok (.i2c, 1) := by decide +kernel
theorem d_lwd_11 : decode method_5_code 11 = .ok (.istore_n 3, 1) := by decide +kernel
theorem d_lwd_12 : decode method_5_code 12 = .ok (.iload_n 0, 1) := by decide +kernel
theorem d_lwd_13 : decode method_5_code 13 = .ok (.bipush 8, 2) := by decide +kernel
theorem d_lwd_15 : decode method_5_code 15 = .ok (.iushr, 1) := by decide +kernel
theorem d_lwd_16 : decode method_5_code 16 = .ok (.sipush 255, 3) := by decide +kernel
theorem d_lwd_19 : decode method_5_code 19 = .ok (.iand, 1) := by decide +kernel
theorem d_lwd_20 : decode method_5_code 20 = .ok (.i2c, 1) := by decide +kernel
theorem d_lwd_21 : decode method_5_code 21 = .ok (.istore 4, 2) := by decide +kernel
theorem d_lwd_23 : decode method_5_code 23 = .ok (.iload_n 1, 1) := by decide +kernel
theorem d_lwd_24 : decode method_5_code 24 = .ok (.ifCond .eq 25, 3) := by decide +kernel
theorem d_lwd_27 : decode method_5_code 27 = .ok (.iload_n 2, 1) := by decide +kernel
theorem d_lwd_28 : decode method_5_code 28 = .ok (.iconst 2, 1) := by decide +kernel
theorem d_lwd_29 : decode method_5_code 29 = .ok (.if_icmp .ne 20, 3) := by decide +kernel
theorem d_lwd_32 : decode method_5_code 32 = .ok (.iload_n 3, 1) := by decide +kernel
theorem d_lwd_33 : decode method_5_code 33 = .ok (.bipush 45, 2) := by decide +kernel
theorem d_lwd_35 : decode method_5_code 35 = .ok (.if_icmp .ne 14, 3) := by decide +kernel
theorem d_lwd_38 : decode method_5_code 38 = .ok (.iload 4, 2) := by decide +kernel
theorem d_lwd_40 : decode method_5_code 40 = .ok (.bipush 45, 2) := by decide +kernel
theorem d_lwd_42 : decode method_5_code 42 = .ok (.if_icmp .ne 7, 3) := by decide +kernel
theorem d_lwd_45 : decode method_5_code 45 = .ok (.bipush 43, 2) := by decide +kernel
theorem d_lwd_47 : decode method_5_code 47 = .ok (.istore 4, 2) := by decide +kernel
theorem d_lwd_49 : decode method_5_code 49 = .ok (.iload_n 2, 1) := by decide +kernel
theorem d_lwd_50 : decode method_5_code 50 = .ok (.newarray .char, 2) := by decide +kernel
theorem d_lwd_52 : decode method_5_code 52 = .ok (.astore 5, 2) := by decide +kernel
theorem d_lwd_54 : decode method_5_code 54 = .ok (.iload_n 2, 1) := by decide +kernel
theorem d_lwd_55 : decode method_5_code 55 = .ok (.ifCond .le 8, 3) := by decide +kernel
theorem d_lwd_58 : decode method_5_code 58 = .ok (.aload 5, 2) := by decide +kernel
theorem d_lwd_60 : decode method_5_code 60 = .ok (.iconst 0, 1) := by decide +kernel
theorem d_lwd_61 : decode method_5_code 61 = .ok (.iload_n 3, 1) := by decide +kernel
theorem d_lwd_62 : decode method_5_code 62 = .ok (.castore, 1) := by decide +kernel
theorem d_lwd_63 : decode method_5_code 63 = .ok (.iload_n 2, 1) := by decide +kernel
theorem d_lwd_64 : decode method_5_code 64 = .ok (.iconst 1, 1) := by decide +kernel
theorem d_lwd_65 : decode method_5_code 65 = .ok (.if_icmp .le 9, 3) := by decide +kernel
theorem d_lwd_68 : decode method_5_code 68 = .ok (.aload 5, 2) := by decide +kernel
theorem d_lwd_70 : decode method_5_code 70 = .ok (.iconst 1, 1) := by decide +kernel
theorem d_lwd_71 : decode method_5_code 71 = .ok (.iload 4, 2) := by decide +kernel
theorem d_lwd_73 : decode method_5_code 73 = .ok (.castore, 1) := by decide +kernel
theorem d_lwd_74 : decode method_5_code 74 = .ok (.new 13, 3) := by decide +kernel
theorem d_lwd_77 : decode method_5_code 77 = .ok (.dup, 1) := by decide +kernel
theorem d_lwd_78 : decode method_5_code 78 = .ok (.aload 5, 2) := by decide +kernel
theorem d_lwd_80 : decode method_5_code 80 = .ok (.invokespecial 15, 3) := by decide +kernel
theorem d_lwd_83 : decode method_5_code 83 = .ok (.areturn, 1) := by decide +kernel
abbrev M_lwd : o_7 := (Yn21, method_5_code, 6, (Option.some (FieldType.object "java/lang/String")), ({ frames := 4, cells := 6, slots := 24, locals := 90 } : Room))
theorem pn_lwd : plainFor (o_7.y M_lwd) = true := plainFor_of_name (by first | (simp [plainName, overriddenIn]; done) | decide +kernel)
theorem c_lwd (K : o_b) (a0 : Array Value) (hw : ∀ d ∈ tables_1, d.before a0 K.Z = true) (hnw : K.nw = false) (hEL : EW K.Z a0 K.E) (hme : ("java/lang/String", 7) ∈ K.E) (g : Int32) (SC : Sta K.Z K.Z.heap o_l "COMPACT_STRINGS" "Z" (.int g)) (hg : ¬ g = 0) (p b : Int32) (h : Heap) :
    o_9 K M_lwd #[.int p, .int b] [] h (o_c fun w h' _ => ∃ x : Addr, w = .ref x ∧ Ext h h' ∧ o_h K.Z h' x (o_v p b)) := by
  have r0 := o_52 p
  have r1 := o_81 p b
  have ok := o_4j (n := o_0y p) r0 r1
  have v1 : (1 : Int32).toInt = 1 := rfl
  have mk : ∀ (a : Addr) (h1 : Heap) (sf : List Addr) (c1 : Int32), Ext h h1 → o_g K.Z h1 a .char (o_p (o_v p b)) → o_3 K M_lwd (o_c fun w h' _ => ∃ x : Addr, w = .ref x ∧ Ext h h' ∧ o_h K.Z h' x (o_v p b)) 74 [.val (.int p), .val (.int b), .val (.int (o_0y p)), .val (.int (o_1s p)), .val (.int c1), .val (.ref a)] [] sf h1 1 2 := by
    intro a h1 sf c1 E1 A1
    have hl1 : @LE.le Nat _ h.size h1.size := E1.1
    refine o_29 (pc' := 77) rfl d_lwd_74 (tw_26 hw) (tw_10 hw) (tw_2 hw) rfl rfl ?_
    intro x h2 ex E2 X2 D2
    refine o_0a (pc' := 78) rfl d_lwd_77 (by first | rfl | assumption) ?_
    refine o_d (pc' := 80) rfl d_lwd_78 rfl (by first | rfl | assumption) ?_
    refine o_35 (M' := M_si1) d_lwd_80 (pc' := 83) rfl rfl rfl (tw_28 hw) (tw_29 hw) (tw_2 hw) (tw_30 hw) (by decide) rfl (o_6 pd_32 rfl) rfl rfl rfl rfl (c_si1 K a0 hw hnw hEL hme x a g (o_v p b) h2 (by have := ok.2.2; show (o_1h _ _ _).length ≤ 7; omega) ok.1 (A1.ext E2) X2 (D2 (Or.inr (tw_23 hw)) (ty := .array .byte) (by decide)) (D2 (Or.inr (tw_25 hw)) (ty := .byte) (by decide)) SC hg ok.2.1) (by simp) ?_
    rintro h3 xs3 ⟨k3, S3⟩
    refine o_i rfl rfl (by first | rfl | assumption) d_lwd_83 rfl rfl ?_
    exact ⟨x, rfl, o_t E1 (o_f E2 k3 (by intro z hz; cases List.mem_singleton.mp hz; omega)), S3⟩
  have at49 : ∀ sf : List Addr, o_3 K M_lwd (o_c fun w h' _ => ∃ x : Addr, w = .ref x ∧ Ext h h' ∧ o_h K.Z h' x (o_v p b)) 49 [.val (.int p), .val (.int b), .val (.int (o_0y p)), .val (.int (o_1s p)), .val (.int (o_3u p b)), .unset] [] sf h 0 0 := by
    intro sf
    rcases o_51 (XT.ushr p 16) with e | e | e
    · have eL : o_0y p = 0 := e
      have eW : o_v p b = [] := by unfold o_v o_1h; rw [if_pos eL]
      rw [eW] at mk ⊢
      rw [eL] at mk ⊢
      refine o_2 (pc' := 50) rfl d_lwd_49 rfl ?_
      refine o_1p (pc' := 52) rfl d_lwd_50 (tw_27 hw) (N := 0) (cap := 2) (by decide) (by decide) rfl rfl rfl ?_
      intro a h1 ea E1 A1
      refine o_2z (pc' := 54) rfl d_lwd_52 (by first | exact One.u | exact One.val rfl | assumption | exact One.val (by assumption)) (by first | rfl | assumption) ?_
      refine o_2 (pc' := 55) rfl d_lwd_54 rfl ?_
      refine o_2g (pcT := 63) (pcF := 58) d_lwd_55 (by decide) (by decide) rfl (fun q => ?_) (fun q => ?_)
      rotate_left 1
      · exact absurd q (by decide)
      refine o_2 (pc' := 64) rfl d_lwd_63 rfl ?_
      refine o_4 (v := (1 : Int32)) (pc' := 65) rfl d_lwd_64 rfl ?_
      refine o_1m (pcT := 74) (pcF := 68) d_lwd_65 (by decide) (by decide) rfl (fun q2 => ?_) (fun q2 => ?_)
      rotate_left 1
      · exact absurd q2 (by decide)
      exact o_s (mk a h1 _ _ E1 A1) (fun z hz => hz) (by exact Nat.le_of_ble_eq_true rfl) (by exact Nat.le_of_ble_eq_true rfl)
    · have eL : o_0y p = 1 := e
      have eW : o_v p b = [o_1s p] := by unfold o_v o_1h; rw [if_neg (by rw [eL]; decide), if_pos eL]
      rw [eW] at mk ⊢
      rw [eL] at mk ⊢
      refine o_2 (pc' := 50) rfl d_lwd_49 rfl ?_
      refine o_1p (pc' := 52) rfl d_lwd_50 (tw_27 hw) (N := 1) (cap := 2) (by decide) (by decide) rfl rfl rfl ?_
      intro a h1 ea E1 A1
      refine o_2z (pc' := 54) rfl d_lwd_52 (by first | exact One.u | exact One.val rfl | assumption | exact One.val (by assumption)) (by first | rfl | assumption) ?_
      refine o_2 (pc' := 55) rfl d_lwd_54 rfl ?_
      refine o_2g (pcT := 63) (pcF := 58) d_lwd_55 (by decide) (by decide) rfl (fun q => ?_) (fun q => ?_)
      · exact absurd q (by decide)
      refine o_d (pc' := 60) rfl d_lwd_58 rfl (by first | rfl | assumption) ?_
      refine o_4 (v := (0 : Int32)) (pc' := 61) rfl d_lwd_60 rfl ?_
      refine o_2 (pc' := 62) rfl d_lwd_61 rfl ?_
      refine o_05 (pc' := 63) rfl d_lwd_62 A1 (i := 0) (by decide) (by simp) (o_2b r0.1 (by omega)) (by simp) ?_
      intro h2 k2 A2
      have E2 := o_f E1 k2 (by intro z hz; cases List.mem_singleton.mp hz; omega)
      refine o_2 (pc' := 64) rfl d_lwd_63 rfl ?_
      refine o_4 (v := (1 : Int32)) (pc' := 65) rfl d_lwd_64 rfl ?_
      refine o_1m (pcT := 74) (pcF := 68) d_lwd_65 (by decide) (by decide) rfl (fun q2 => ?_) (fun q2 => ?_)
      rotate_left 1
      · exact absurd q2 (by decide)
      exact o_s (mk a h2 _ _ E2 A2) (fun z hz => hz) (by exact Nat.le_of_ble_eq_true rfl) (by exact Nat.le_of_ble_eq_true rfl)
    · have eL : o_0y p = 2 := e
      have eW : o_v p b = [o_1s p, o_3u p b] := by unfold o_v o_1h; rw [if_neg (by rw [eL]; decide), if_neg (by rw [eL]; decide)]
      rw [eW] at mk ⊢
      rw [eL] at mk ⊢
      refine o_2 (pc' := 50) rfl d_lwd_49 rfl ?_
      refine o_1p (pc' := 52) rfl d_lwd_50 (tw_27 hw) (N := 2) (cap := 2) (by decide) (by decide) rfl rfl rfl ?_
      intro a h1 ea E1 A1
      refine o_2z (pc' := 54) rfl d_lwd_52 (by first | exact One.u | exact One.val rfl | assumption | exact One.val (by assumption)) (by first | rfl | assumption) ?_
      refine o_2 (pc' := 55) rfl d_lwd_54 rfl ?_
      refine o_2g (pcT := 63) (pcF := 58) d_lwd_55 (by decide) (by decide) rfl (fun q => ?_) (fun q => ?_)
      · exact absurd q (by decide)
      refine o_d (pc' := 60) rfl d_lwd_58 rfl (by first | rfl | assumption) ?_
      refine o_4 (v := (0 : Int32)) (pc' := 61) rfl d_lwd_60 rfl ?_
      refine o_2 (pc' := 62) rfl d_lwd_61 rfl ?_
      refine o_05 (pc' := 63) rfl d_lwd_62 A1 (i := 0) (by decide) (by simp) (o_2b r0.1 (by omega)) (by simp) ?_
      intro h2 k2 A2
      have E2 := o_f E1 k2 (by intro z hz; cases List.mem_singleton.mp hz; omega)
      refine o_2 (pc' := 64) rfl d_lwd_63 rfl ?_
      refine o_4 (v := (1 : Int32)) (pc' := 65) rfl d_lwd_64 rfl ?_
      refine o_1m (pcT := 74) (pcF := 68) d_lwd_65 (by decide) (by decide) rfl (fun q2 => ?_) (fun q2 => ?_)
      · exact absurd q2 (by decide)
      refine o_d (pc' := 70) rfl d_lwd_68 rfl (by first | rfl | assumption) ?_
      refine o_4 (v := (1 : Int32)) (pc' := 71) rfl d_lwd_70 rfl ?_
      refine o_a (pc' := 73) rfl d_lwd_71 rfl ?_
      refine o_05 (pc' := 74) rfl d_lwd_73 A2 (i := 1) (by decide) (by simp) (o_2b r1.1 (by omega)) (by simp) ?_
      intro h3 k3 A3
      have E3 := o_f E2 k3 (by intro z hz; cases List.mem_singleton.mp hz; omega)
      exact o_s (mk a h3 _ _ E3 A3) (fun z hz => hz) (by exact Nat.le_of_ble_eq_true rfl) (by exact Nat.le_of_ble_eq_true rfl)
  refine o_87 (M := M_lwd) pn_lwd rfl (by first | rfl | exact o_5 (by assumption)) (by first | rfl | exact o_5 (by assumption)) ?_
  refine o_2 (pc' := 1) rfl d_lwd_0 rfl ?_
  refine o_03 (M' := M_lln) d_lwd_1 (pc' := 4) rfl (tw_48 hw) (tw_49 hw) (tw_46 hw) (tw_50 hw) (by decide) rfl (o_6 pd_33 rfl) rfl rfl rfl rfl (c_lln K a0 hw p h) (by simp) ?_
  rintro w h1 xs1 ⟨rfl, rfl⟩
  refine o_2s (pc' := 5) rfl d_lwd_4 (by first | exact One.u | exact One.val rfl | assumption | exact One.val (by assumption)) ?_
  refine o_2 (pc' := 6) rfl d_lwd_5 rfl ?_
  refine o_1f (v := (255 : Int32)) (pc' := 9) rfl d_lwd_6 rfl ?_
  refine o_1l (pc' := 10) rfl d_lwd_9 ?_
  refine o_3e (pc' := 11) rfl d_lwd_10 ?_
  refine o_1i (pc' := 12) rfl d_lwd_11 (by first | exact One.u | exact One.val rfl | assumption | exact One.val (by assumption)) ?_
  refine o_2 (pc' := 13) rfl d_lwd_12 rfl ?_
  refine o_u (v := (8 : Int32)) (pc' := 15) rfl d_lwd_13 rfl ?_
  refine o_2e (pc' := 16) rfl d_lwd_15 ?_
  refine o_1f (v := (255 : Int32)) (pc' := 19) rfl d_lwd_16 rfl ?_
  refine o_1l (pc' := 20) rfl d_lwd_19 ?_
  refine o_3e (pc' := 21) rfl d_lwd_20 ?_
  refine o_1j (pc' := 23) rfl d_lwd_21 (by first | exact One.u | exact One.val rfl | assumption | exact One.val (by assumption)) ?_
  refine o_2 (pc' := 24) rfl d_lwd_23 rfl ?_
  have no : o_3u p b = o_2p p → ∀ sf : List Addr, o_3 K M_lwd (o_c fun w h' _ => ∃ x : Addr, w = .ref x ∧ Ext h1 h' ∧ o_h K.Z h' x (o_v p b)) 49 [.val (.int p), .val (.int b), .val (.int (o_0y p)), .val (.int (o_1s p)), .val (.int (o_2p p)), .unset] [] sf h1 0 0 := by
    intro e sf
    rw [← e]
    exact at49 sf
  refine o_k (pcT := 49) (pcF := 27) d_lwd_24 (by decide) (by decide) rfl (fun q1 => ?_) (fun q1 => ?_)
  · exact o_s (no (if_neg (fun z => z.1 q1)) _) (fun z hz => hz) (by exact Nat.le_of_ble_eq_true rfl) (by exact Nat.le_of_ble_eq_true rfl)
  refine o_2 (pc' := 28) rfl d_lwd_27 rfl ?_
  refine o_4 (v := (2 : Int32)) (pc' := 29) rfl d_lwd_28 rfl ?_
  refine o_07 (pcT := 49) (pcF := 32) d_lwd_29 (by decide) (by decide) rfl (fun q2 => ?_) (fun q2 => ?_)
  · exact o_s (no (if_neg (fun z => q2 z.2.1)) _) (fun z hz => hz) (by exact Nat.le_of_ble_eq_true rfl) (by exact Nat.le_of_ble_eq_true rfl)
  refine o_2 (pc' := 33) rfl d_lwd_32 rfl ?_
  refine o_u (v := (45 : Int32)) (pc' := 35) rfl d_lwd_33 rfl ?_
  refine o_07 (pcT := 49) (pcF := 38) d_lwd_35 (by decide) (by decide) rfl (fun q3 => ?_) (fun q3 => ?_)
  · exact o_s (no (if_neg (fun z => q3 z.2.2.1)) _) (fun z hz => hz) (by exact Nat.le_of_ble_eq_true rfl) (by exact Nat.le_of_ble_eq_true rfl)
  refine o_a (pc' := 40) rfl d_lwd_38 rfl ?_
  refine o_u (v := (45 : Int32)) (pc' := 42) rfl d_lwd_40 rfl ?_
  refine o_07 (pcT := 49) (pcF := 45) d_lwd_42 (by decide) (by decide) rfl (fun q4 => ?_) (fun q4 => ?_)
  · exact o_s (no (if_neg (fun z => q4 z.2.2.2)) _) (fun z hz => hz) (by exact Nat.le_of_ble_eq_true rfl) (by exact Nat.le_of_ble_eq_true rfl)
  refine o_u (v := (43 : Int32)) (pc' := 47) rfl d_lwd_45 rfl ?_
  refine o_1j (pc' := 49) rfl d_lwd_47 (by first | exact One.u | exact One.val rfl | assumption | exact One.val (by assumption)) ?_
  have e43 : o_3u p b = 43 := if_pos ⟨q1, q2, q3, q4⟩
  rw [e43] at at49
  exact o_s (at49 _) (fun z hz => hz) (by exact Nat.le_of_ble_eq_true rfl) (by exact Nat.le_of_ble_eq_true rfl)
/-! String.startsWith of texts below 256 (behind strops.wp: S_LEN) -/
theorem o_8j {c d : Int32} (h0 : 0 ≤ c.toInt) (h1 : c.toInt < 256) (h2 : 0 ≤ d.toInt) (h3 : d.toInt < 256) (q : o_04 c = o_04 d) : c = d := by
  rw [← o_2f h0 h1, ← o_2f h2 h3, q]
theorem d_mis_0 : decode Bn9 0 = .ok (.iconst 0, 1) := by decide +kernel
theorem d_mis_1 : decode Bn9 1 = .ok (.istore 5, 2) := by decide +kernel
theorem d_mis_3 : decode Bn9 3 = .ok (.iload 4, 2) := by decide +kernel
theorem d_mis_5 : decode Bn9 5 = .ok (.bipush 7, 2) := by decide +kernel
theorem d_mis_7 : decode Bn9 7 = .ok (.if_icmp .le 63, 3) := by decide +kernel
theorem d_mis_70 : decode Bn9 70 = .ok (.iload 5, 2) := by decide +kernel
theorem d_mis_72 : decode Bn9 72 = .ok (.iload 4, 2) := by decide +kernel
theorem d_mis_74 : decode Bn9 74 = .ok (.if_icmp .ge 27, 3) := by decide +kernel
theorem d_mis_77 : decode Bn9 77 = .ok (.aload_n 0, 1) := by decide +kernel
theorem d_mis_78 : decode Bn9 78 = .ok (.iload_n 1, 1) := by decide +kernel
theorem d_mis_79 : decode Bn9 79 = .ok (.iload 5, 2) := by decide +kernel
theorem d_mis_81 : decode Bn9 81 = .ok (.iadd, 1) := by decide +kernel
theorem d_mis_82 : decode Bn9 82 = .ok (.baload, 1) := by decide +kernel
theorem d_mis_83 : decode Bn9 83 = .ok (.aload_n 2, 1) := by decide +kernel
theorem d_mis_84 : decode Bn9 84 = .ok (.iload_n 3, 1) := by decide +kernel
theorem d_mis_85 : decode Bn9 85 = .ok (.iload 5, 2) := by decide +kernel
theorem d_mis_87 : decode Bn9 87 = .ok (.iadd, 1) := by decide +kernel
theorem d_mis_88 : decode Bn9 88 = .ok (.baload, 1) := by decide +kernel
theorem d_mis_89 : decode Bn9 89 = .ok (.if_icmp .eq 6, 3) := by decide +kernel
theorem d_mis_92 : decode Bn9 92 = .ok (.iload 5, 2) := by decide +kernel
theorem d_mis_94 : decode Bn9 94 = .ok (.ireturn, 1) := by decide +kernel
theorem d_mis_95 : decode Bn9 95 = .ok (.iinc 5 1, 3) := by decide +kernel
theorem d_mis_98 : decode Bn9 98 = .ok (.goto (-28), 3) := by decide +kernel
theorem d_mis_101 : decode Bn9 101 = .ok (.iconst (-1), 1) := by decide +kernel
theorem d_mis_102 : decode Bn9 102 = .ok (.ireturn, 1) := by decide +kernel
abbrev M_mis : o_7 := (Yn76, jdk_48_method_14_code, 8, (Option.some FieldType.int), ({ frames := 0, cells := 0, slots := 0, locals := 0 } : Room))
theorem pn_mis : plainFor (o_7.y M_mis) = true := plainFor_of_name (by first | (simp [plainName, overriddenIn]; done) | decide +kernel)
def Q_mis (cs ds : List Int32) (h : Heap) : Value → Heap → List Addr → Prop := fun w h' _ => ∃ r : Int32, w = .int r ∧ (r.toInt < 0 ↔ cs.take ds.length = ds) ∧ h' = h
theorem c_mis (K : o_b) (a0 : Array Value) (hw : ∀ d ∈ tables_1, d.before a0 K.Z = true) (a b : Addr) (cs ds : List Int32) (n : Int32) (h : Heap) (hn : n.toInt = ds.length) (h7 : ds.length ≤ 7) (hle : ds.length ≤ cs.length) (hcs : o_0i cs) (hds : o_0i ds) (qc : o_n cs = true) (qd : o_n ds = true) (A : o_g K.Z h a .byte (o_p (cs.map o_04))) (B : o_g K.Z h b .byte (o_p (ds.map o_04))) :
    o_9 K M_mis #[.ref a, .int 0, .ref b, .int 0, .int n] [] h (o_c (Q_mis cs ds h)) := by
  have v1 : (1 : Int32).toInt = 1 := rfl
  have v7 : (7 : Int32).toInt = 7 := rfl
  refine o_8c (M := M_mis) pn_mis rfl (by first | rfl | exact o_5 (by assumption)) (by first | rfl | exact o_5 (by assumption)) (by first | rfl | exact o_5 (by assumption)) (by first | rfl | exact o_5 (by assumption)) (by first | rfl | exact o_5 (by assumption)) ?_
  refine o_4 (v := (0 : Int32)) (pc' := 1) rfl d_mis_0 rfl ?_
  refine o_1a (pc' := 3) rfl d_mis_1 (by first | exact One.u | exact One.val rfl | assumption | exact One.val (by assumption)) ?_
  refine o_a (pc' := 5) rfl d_mis_3 rfl ?_
  refine o_u (v := (7 : Int32)) (pc' := 7) rfl d_mis_5 rfl ?_
  refine o_1m (pcT := 70) (pcF := 10) d_mis_7 (by decide) (by decide) rfl (fun q => ?_) (fun q => ?_)
  rotate_left 1
  · rw [Int32.lt_iff_toInt_lt] at q
    omega
  suffices key : ∀ (k i : Nat) (j : Int32), i + k = ds.length → j.toInt = i → cs.take i = ds.take i → o_3 K M_mis (o_c (Q_mis cs ds h)) 70 [.val (.ref a), .val (.int 0), .val (.ref b), .val (.int 0), .val (.int n), .val (.int j), .unset, .unset] [] [] h 0 0 from
    key ds.length 0 0 (by omega) rfl (by simp)
  intro k
  induction k with
  | zero =>
    intro i j hik hj e
    refine o_a (pc' := 72) rfl d_mis_70 rfl ?_
    refine o_a (pc' := 74) rfl d_mis_72 rfl ?_
    refine o_14 (pcT := 101) (pcF := 77) d_mis_74 (by decide) (by decide) rfl (fun q2 => ?_) (fun q2 => ?_)
    rotate_left 1
    · rw [Int32.lt_iff_toInt_lt] at q2
      omega
    refine o_4 (v := (-1 : Int32)) (pc' := 102) rfl d_mis_101 rfl ?_
    refine o_00 rfl d_mis_102 rfl rfl ?_
    rw [show i = ds.length by omega, List.take_length] at e
    exact ⟨_, rfl, ⟨fun _ => e, fun _ => by decide⟩, rfl⟩
  | succ k ih =>
    intro i j hik hj e
    obtain ⟨c, hc⟩ : ∃ c, cs[i]? = some c := ⟨cs[i]'(by omega), by simp [show i < cs.length by omega]⟩
    obtain ⟨d, hd⟩ : ∃ d, ds[i]? = some d := ⟨ds[i]'(by omega), by simp [show i < ds.length by omega]⟩
    have rc := hcs c (List.mem_of_getElem? hc)
    have rd := hds d (List.mem_of_getElem? hd)
    have lc := o_2l qc hc
    have ld := o_2l qd hd
    have e0 : (0 : Int32) + j = j := by simp
    refine o_a (pc' := 72) rfl d_mis_70 rfl ?_
    refine o_a (pc' := 74) rfl d_mis_72 rfl ?_
    refine o_14 (pcT := 101) (pcF := 77) d_mis_74 (by decide) (by decide) rfl (fun q2 => ?_) (fun q2 => ?_)
    · exact absurd (by rw [Int32.lt_iff_toInt_lt]; omega) q2
    refine o_1 (pc' := 78) rfl d_mis_77 rfl (by first | rfl | assumption) ?_
    refine o_2 (pc' := 79) rfl d_mis_78 rfl ?_
    refine o_a (pc' := 81) rfl d_mis_79 rfl ?_
    refine o_0h (pc' := 82) rfl d_mis_81 ?_
    rw [e0]
    refine o_34 (pc' := 83) rfl d_mis_82 A (i := i) hj (o_2h hc) ?_
    refine o_1 (pc' := 84) rfl d_mis_83 rfl (by first | rfl | assumption) ?_
    refine o_2 (pc' := 85) rfl d_mis_84 rfl ?_
    refine o_a (pc' := 87) rfl d_mis_85 rfl ?_
    refine o_0h (pc' := 88) rfl d_mis_87 ?_
    rw [e0]
    refine o_34 (pc' := 89) rfl d_mis_88 B (i := i) hj (o_2h hd) ?_
    refine o_33 (pcT := 95) (pcF := 92) d_mis_89 (by decide) (by decide) rfl (fun q3 => ?_) (fun q3 => ?_)
    · have ecd : c = d := o_8j rc.1 lc rd.1 ld q3
      refine o_4r (z := (1 : Int32)) (pc' := 98) rfl d_mis_95 rfl ?_
      refine o_o (pc' := 70) d_mis_98 (by decide) (by decide) ?_
      exact ih (i + 1) (j + 1) (by omega) (by rw [o_20 hj v1] <;> omega) (by rw [List.take_add_one, List.take_add_one, hc, hd, e, ecd])
    · have ncd : ¬ c = d := fun z => q3 (by rw [z])
      refine o_a (pc' := 94) rfl d_mis_92 rfl ?_
      refine o_00 rfl d_mis_94 rfl rfl ?_
      refine ⟨j, rfl, ⟨fun z => by omega, fun z => ?_⟩, rfl⟩
      have h1 : (cs.take ds.length)[i]? = some c := by rw [List.getElem?_take_of_lt (by omega), hc]
      rw [z, hd] at h1
      exact absurd (Option.some.inj h1).symm ncd
theorem d_sw2_0 : decode Bn3 0 = .ok (.iload_n 2, 1) := by decide +kernel
theorem d_sw2_1 : decode Bn3 1 = .ok (.ifCond .lt 16, 3) := by decide +kernel
theorem d_sw2_4 : decode Bn3 4 = .ok (.iload_n 2, 1) := by decide +kernel
theorem d_sw2_5 : decode Bn3 5 = .ok (.aload_n 0, 1) := by decide +kernel
theorem d_sw2_6 : decode Bn3 6 = .ok (.invokevirtual 505, 3) := by decide +kernel
theorem d_sw2_9 : decode Bn3 9 = .ok (.aload_n 1, 1) := by decide +kernel
theorem d_sw2_10 : decode Bn3 10 = .ok (.invokevirtual 505, 3) := by decide +kernel
theorem d_sw2_13 : decode Bn3 13 = .ok (.isub, 1) := by decide +kernel
theorem d_sw2_14 : decode Bn3 14 = .ok (.if_icmp .le 5, 3) := by decide +kernel
theorem d_sw2_17 : decode Bn3 17 = .ok (.iconst 0, 1) := by decide +kernel
theorem d_sw2_18 : decode Bn3 18 = .ok (.ireturn, 1) := by decide +kernel
theorem d_sw2_19 : decode Bn3 19 = .ok (.aload_n 0, 1) := by decide +kernel
theorem d_sw2_20 : decode Bn3 20 = .ok (.getfield 9, 3) := by decide +kernel
theorem d_sw2_23 : decode Bn3 23 = .ok (.astore_n 3, 1) := by decide +kernel
theorem d_sw2_24 : decode Bn3 24 = .ok (.aload_n 1, 1) := by decide +kernel
theorem d_sw2_25 : decode Bn3 25 = .ok (.getfield 9, 3) := by decide +kernel
theorem d_sw2_28 : decode Bn3 28 = .ok (.astore 4, 2) := by decide +kernel
theorem d_sw2_30 : decode Bn3 30 = .ok (.iconst 0, 1) := by decide +kernel
theorem d_sw2_31 : decode Bn3 31 = .ok (.istore 5, 2) := by decide +kernel
theorem d_sw2_33 : decode Bn3 33 = .ok (.aload 4, 2) := by decide +kernel
theorem d_sw2_35 : decode Bn3 35 = .ok (.arraylength, 1) := by decide +kernel
theorem d_sw2_36 : decode Bn3 36 = .ok (.istore 6, 2) := by decide +kernel
theorem d_sw2_38 : decode Bn3 38 = .ok (.aload_n 0, 1) := by decide +kernel
theorem d_sw2_39 : decode Bn3 39 = .ok (.invokevirtual 335, 3) := by decide +kernel
theorem d_sw2_42 : decode Bn3 42 = .ok (.istore 7, 2) := by decide +kernel
theorem d_sw2_44 : decode Bn3 44 = .ok (.iload 7, 2) := by decide +kernel
theorem d_sw2_46 : decode Bn3 46 = .ok (.aload_n 1, 1) := by decide +kernel
theorem d_sw2_47 : decode Bn3 47 = .ok (.invokevirtual 335, 3) := by decide +kernel
theorem d_sw2_50 : decode Bn3 50 = .ok (.if_icmp .ne 32, 3) := by decide +kernel
theorem d_sw2_53 : decode Bn3 53 = .ok (.iload 7, 2) := by decide +kernel
theorem d_sw2_55 : decode Bn3 55 = .ok (.iconst 1, 1) := by decide +kernel
theorem d_sw2_56 : decode Bn3 56 = .ok (.if_icmp .ne 7, 3) := by decide +kernel
theorem d_sw2_63 : decode Bn3 63 = .ok (.aload_n 3, 1) := by decide +kernel
theorem d_sw2_64 : decode Bn3 64 = .ok (.iload_n 2, 1) := by decide +kernel
theorem d_sw2_65 : decode Bn3 65 = .ok (.aload 4, 2) := by decide +kernel
theorem d_sw2_67 : decode Bn3 67 = .ok (.iconst 0, 1) := by decide +kernel
theorem d_sw2_68 : decode Bn3 68 = .ok (.iload 6, 2) := by decide +kernel
theorem d_sw2_70 : decode Bn3 70 = .ok (.invokestatic 607, 3) := by decide +kernel
theorem d_sw2_73 : decode Bn3 73 = .ok (.ifCond .ge 7, 3) := by decide +kernel
theorem d_sw2_76 : decode Bn3 76 = .ok (.iconst 1, 1) := by decide +kernel
theorem d_sw2_77 : decode Bn3 77 = .ok (.goto 4, 3) := by decide +kernel
theorem d_sw2_80 : decode Bn3 80 = .ok (.iconst 0, 1) := by decide +kernel
theorem d_sw2_81 : decode Bn3 81 = .ok (.ireturn, 1) := by decide +kernel
abbrev M_sw2 : o_7 := (Yn77, jdk_42_method_75_code, 8, (Option.some FieldType.boolean), ({ frames := 2, cells := 0, slots := 0, locals := 30 } : Room))
theorem pn_sw2 : plainFor (o_7.y M_sw2) = true := plainFor_of_name (by first | (simp [plainName, overriddenIn]; done) | decide +kernel)
theorem c_sw2 (K : o_b) (a0 : Array Value) (hw : ∀ d ∈ tables_1, d.before a0 K.Z = true) (g : Int32) (SC : Sta K.Z K.Z.heap o_l "COMPACT_STRINGS" "Z" (.int g)) (hg : ¬ g = 0) (x y : Addr) (cs ds : List Int32) (h : Heap) (S : o_h K.Z h x cs) (T : o_h K.Z h y ds) (h7 : ds.length ≤ 7) (hl : cs.length < 2 ^ 20) (qc : o_n cs = true) (qd : o_n ds = true) :
    o_9 K M_sw2 #[.ref x, .ref y, .int 0] [] h (o_c fun w h' _ => w = .int (if cs.take ds.length = ds then 1 else 0) ∧ h' = h) := by
  have S' := S
  have T' := T
  obtain ⟨E1, c1, -, b1, V1, C1, B1⟩ := S
  obtain ⟨E2, c2, -, b2, V2, C2, B2⟩ := T
  rw [(o_0e qc).1] at B1
  rw [(o_0e qd).1] at B2
  have n1 : (cs.length.toInt32).toInt = cs.length := o_0o _ (by omega)
  have n2 : (ds.length.toInt32).toInt = ds.length := o_0o _ (by omega)
  have n3 : (cs.length.toInt32 - ds.length.toInt32).toInt = (cs.length : Int) - ds.length := o_4b n1 n2 (by omega) (by omega)
  have v0 : (0 : Int32).toInt = 0 := rfl
  refine o_89 (M := M_sw2) pn_sw2 rfl (by first | rfl | exact o_5 (by assumption)) (by first | rfl | exact o_5 (by assumption)) (by first | rfl | exact o_5 (by assumption)) ?_
  refine o_2 (pc' := 1) rfl d_sw2_0 rfl ?_
  refine o_5f (pcT := 17) (pcF := 4) d_sw2_1 (by decide) (by decide) rfl (fun q => ?_) (fun q => ?_)
  · exact absurd q (by decide)
  refine o_2 (pc' := 5) rfl d_sw2_4 rfl ?_
  refine o_1 (pc' := 6) rfl d_sw2_5 rfl (by first | rfl | assumption) ?_
  refine o_0p (M' := M_sl) d_sw2_6 (pc' := 9) rfl (tw_321 hw) (tw_322 hw) (tw_324 hw) (tw_323 hw) (tw_2 hw) (tw_325 hw) (by decide) rfl (o_6 pd_13 rfl) rfl rfl rfl rfl E1 (c_sl K a0 hw g SC hg x cs h S') (by simp) ?_
  rintro w h1 xs1 ⟨rfl, rfl⟩
  refine o_1 (pc' := 10) rfl d_sw2_9 rfl (by first | rfl | assumption) ?_
  refine o_0p (M' := M_sl) d_sw2_10 (pc' := 13) rfl (tw_321 hw) (tw_322 hw) (tw_324 hw) (tw_323 hw) (tw_2 hw) (tw_325 hw) (by decide) rfl (o_6 pd_13 rfl) rfl rfl rfl rfl E2 (c_sl K a0 hw g SC hg y ds _ T') (by simp) ?_
  rintro w h2 xs2 ⟨rfl, rfl⟩
  refine o_2x (pc' := 14) rfl d_sw2_13 ?_
  refine o_1m (pcT := 19) (pcF := 17) d_sw2_14 (by decide) (by decide) rfl (fun q1 => ?_) (fun q1 => ?_)
  rotate_left 1
  · rw [Int32.lt_iff_toInt_lt, n3, v0] at q1
    have hne : ¬ cs.take ds.length = ds := fun z => by
      have := congrArg List.length z
      rw [List.length_take] at this
      omega
    refine o_4 (v := (0 : Int32)) (pc' := 18) rfl d_sw2_17 rfl ?_
    refine o_y (t := .boolean) rfl (by simp) (by first | exact o_0v | exact o_0w | rfl) d_sw2_18 rfl rfl ?_
    exact ⟨by rw [if_neg hne], rfl⟩
  rw [Int32.lt_iff_toInt_lt, n3, v0] at q1
  refine o_1 (pc' := 20) rfl d_sw2_19 rfl (by first | rfl | assumption) ?_
  refine o_q (pc' := 23) rfl d_sw2_20 (tw_22 hw) Via.refl V1 ?_
  refine o_2t (pc' := 24) rfl d_sw2_23 (by first | exact One.u | exact One.val rfl | assumption | exact One.val (by assumption)) (by first | rfl | assumption) ?_
  refine o_1 (pc' := 25) rfl d_sw2_24 rfl (by first | rfl | assumption) ?_
  refine o_q (pc' := 28) rfl d_sw2_25 (tw_22 hw) Via.refl V2 ?_
  refine o_40 (pc' := 30) rfl d_sw2_28 (by first | exact One.u | exact One.val rfl | assumption | exact One.val (by assumption)) (by first | rfl | assumption) ?_
  refine o_4 (v := (0 : Int32)) (pc' := 31) rfl d_sw2_30 rfl ?_
  refine o_1a (pc' := 33) rfl d_sw2_31 (by first | exact One.u | exact One.val rfl | assumption | exact One.val (by assumption)) ?_
  refine o_d (pc' := 35) rfl d_sw2_33 rfl (by first | rfl | assumption) ?_
  refine o_01 (z := ds.length.toInt32) (pc' := 36) rfl d_sw2_35 B2 (by rw [n2]; simp) ?_
  refine o_1w (pc' := 38) rfl d_sw2_36 (by first | exact One.u | exact One.val rfl | assumption | exact One.val (by assumption)) ?_
  refine o_1 (pc' := 39) rfl d_sw2_38 rfl (by first | rfl | assumption) ?_
  refine o_0p (M' := M_cdr) d_sw2_39 (pc' := 42) rfl (tw_326 hw) (tw_327 hw) (tw_329 hw) (tw_328 hw) (tw_2 hw) (tw_330 hw) (by decide) rfl (o_6 pd_4 rfl) rfl rfl rfl rfl E1 (c_cdr K a0 hw g SC hg x cs _ S') (by simp) ?_
  rintro w h3 xs3 ⟨rfl, rfl⟩
  refine o_3l (pc' := 44) rfl d_sw2_42 (by first | exact One.u | exact One.val rfl | assumption | exact One.val (by assumption)) ?_
  refine o_a (pc' := 46) rfl d_sw2_44 rfl ?_
  refine o_1 (pc' := 47) rfl d_sw2_46 rfl (by first | rfl | assumption) ?_
  refine o_0p (M' := M_cdr) d_sw2_47 (pc' := 50) rfl (tw_326 hw) (tw_327 hw) (tw_329 hw) (tw_328 hw) (tw_2 hw) (tw_330 hw) (by decide) rfl (o_6 pd_4 rfl) rfl rfl rfl rfl E2 (c_cdr K a0 hw g SC hg y ds _ T') (by simp) ?_
  rintro w h4 xs4 ⟨rfl, rfl⟩
  rw [(o_0e qc).2, (o_0e qd).2]
  refine o_07 (pcT := 82) (pcF := 53) d_sw2_50 (by decide) (by decide) rfl (fun q2 => ?_) (fun q2 => ?_)
  · exact absurd rfl q2
  refine o_a (pc' := 55) rfl d_sw2_53 rfl ?_
  refine o_4 (v := (1 : Int32)) (pc' := 56) rfl d_sw2_55 rfl ?_
  refine o_07 (pcT := 63) (pcF := 59) d_sw2_56 (by decide) (by decide) rfl (fun q3 => ?_) (fun q3 => ?_)
  rotate_left 1
  · exact absurd q3 (by decide)
  refine o_1 (pc' := 64) rfl d_sw2_63 rfl (by first | rfl | assumption) ?_
  refine o_2 (pc' := 65) rfl d_sw2_64 rfl ?_
  refine o_d (pc' := 67) rfl d_sw2_65 rfl (by first | rfl | assumption) ?_
  refine o_4 (v := (0 : Int32)) (pc' := 68) rfl d_sw2_67 rfl ?_
  refine o_a (pc' := 70) rfl d_sw2_68 rfl ?_
  refine o_3z (M' := M_mis) d_sw2_70 (pc' := 73) rfl (o_0 hw 332 rfl) (o_0 hw 333 rfl) (tw_334 hw) (o_0 hw 335 rfl) (by decide) rfl (o_6 pd_34 rfl) rfl rfl rfl rfl (c_mis K a0 hw b1 b2 cs ds _ _ n2 h7 (by omega) c1 c2 qc qd B1 B2) (by simp) ?_
  rintro w h5 xs5 ⟨r, rfl, hr, rfl⟩
  refine o_49 (pcT := 80) (pcF := 76) d_sw2_73 (by decide) (by decide) rfl (fun q4 => ?_) (fun q4 => ?_)
  · rw [Int32.lt_iff_toInt_lt, v0] at q4
    refine o_4 (v := (0 : Int32)) (pc' := 81) rfl d_sw2_80 rfl ?_
    refine o_y (t := .boolean) rfl (by simp) (by first | exact o_0v | exact o_0w | rfl) d_sw2_81 rfl rfl ?_
    exact ⟨by rw [if_neg (fun z => q4 (hr.mpr z))], rfl⟩
  · rw [Int32.lt_iff_toInt_lt, v0] at q4
    refine o_4 (v := (1 : Int32)) (pc' := 77) rfl d_sw2_76 rfl ?_
    refine o_o (pc' := 81) d_sw2_77 (by decide) (by decide) ?_
    refine o_y (t := .boolean) rfl (by simp) (by first | exact o_0v | exact o_0w | rfl) d_sw2_81 rfl rfl ?_
    exact ⟨by rw [if_pos (hr.mp q4)], rfl⟩
theorem d_sw1_0 : decode Bn81 0 = .ok (.aload_n 0, 1) := by decide +kernel
theorem d_sw1_1 : decode Bn81 1 = .ok (.aload_n 1, 1) := by decide +kernel
theorem d_sw1_2 : decode Bn81 2 = .ok (.iconst 0, 1) := by decide +kernel
theorem d_sw1_3 : decode Bn81 3 = .ok (.invokevirtual 624, 3) := by decide +kernel
theorem d_sw1_6 : decode Bn81 6 = .ok (.ireturn, 1) := by decide +kernel
abbrev M_sw1 : o_7 := (Yn78, jdk_42_method_76_code, 2, (Option.some FieldType.boolean), ({ frames := 3, cells := 0, slots := 0, locals := 50 } : Room))
theorem pn_sw1 : plainFor (o_7.y M_sw1) = true := plainFor_of_name (by first | (simp [plainName, overriddenIn]; done) | decide +kernel)
theorem c_sw1 (K : o_b) (a0 : Array Value) (hw : ∀ d ∈ tables_1, d.before a0 K.Z = true) (g : Int32) (SC : Sta K.Z K.Z.heap o_l "COMPACT_STRINGS" "Z" (.int g)) (hg : ¬ g = 0) (x y : Addr) (cs ds : List Int32) (h : Heap) (S : o_h K.Z h x cs) (T : o_h K.Z h y ds) (h7 : ds.length ≤ 7) (hl : cs.length < 2 ^ 20) (qc : o_n cs = true) (qd : o_n ds = true) :
    o_9 K M_sw1 #[.ref x, .ref y] [] h (o_c fun w h' _ => w = .int (if cs.take ds.length = ds then 1 else 0) ∧ h' = h) := by
  refine o_08 (M := M_sw1) pn_sw1 rfl (by first | rfl | exact o_5 (by assumption)) (by first | rfl | exact o_5 (by assumption)) ?_
  refine o_1 (pc' := 1) rfl d_sw1_0 rfl (by first | rfl | assumption) ?_
  refine o_1 (pc' := 2) rfl d_sw1_1 rfl (by first | rfl | assumption) ?_
  refine o_4 (v := (0 : Int32)) (pc' := 3) rfl d_sw1_2 rfl ?_
  refine o_2r (M' := M_sw2) d_sw1_3 (pc' := 6) rfl (o_0 hw 316 rfl) (o_0 hw 317 rfl) (o_0 hw 319 rfl) (o_0 hw 318 rfl) (tw_2 hw) (o_0 hw 320 rfl) (by decide) rfl (o_6 pd_35 rfl) rfl rfl rfl rfl S.1 (c_sw2 K a0 hw g SC hg x y cs ds h S T h7 hl qc qd) (by simp) ?_
  rintro w h1 xs1 ⟨rfl, rfl⟩
  by_cases q : cs.take ds.length = ds
  · rw [if_pos q]
    refine o_y (t := .boolean) rfl (by simp) (by first | exact o_0v | exact o_0w | rfl) d_sw1_6 rfl rfl ?_
    exact ⟨rfl, rfl⟩
  · rw [if_neg q]
    refine o_y (t := .boolean) rfl (by simp) (by first | exact o_0v | exact o_0w | rfl) d_sw1_6 rfl rfl ?_
    exact ⟨rfl, rfl⟩
/-! indexOf of a char from a place on -/
def o_2u (cs : List Int32) (ch : Int32) : Nat → Nat → Int
  | 0, _ => -1
  | k + 1, i => if cs[i]? = some ch then (i : Int) else o_2u cs ch k (i + 1)
abbrev o_44 (cs : List Int32) (ch : Int32) (i : Nat) : Int := o_2u cs ch (cs.length - i) i
theorem o_93 {c d : Int32} (h0 : 0 ≤ c.toInt) (h1 : c.toInt < 256) (h2 : 0 ≤ d.toInt) (h3 : d.toInt < 256) (q : o_04 c = o_04 d) : c = d := by
  rw [← o_2f h0 h1, ← o_2f h2 h3, q]
theorem d_cei_0 : decode Bn59 0 = .ok (.iload_n 0, 1) := by decide +kernel
theorem d_cei_1 : decode Bn59 1 = .ok (.ifCond .lt 14, 3) := by decide +kernel
theorem d_cei_4 : decode Bn59 4 = .ok (.iload_n 0, 1) := by decide +kernel
theorem d_cei_5 : decode Bn59 5 = .ok (.sipush 255, 3) := by decide +kernel
theorem d_cei_8 : decode Bn59 8 = .ok (.if_icmp .gt 7, 3) := by decide +kernel
theorem d_cei_11 : decode Bn59 11 = .ok (.iconst 1, 1) := by decide +kernel
theorem d_cei_12 : decode Bn59 12 = .ok (.goto 4, 3) := by decide +kernel
theorem d_cei_16 : decode Bn59 16 = .ok (.ireturn, 1) := by decide +kernel
abbrev M_cei : o_7 := (Yn79, jdk_43_method_4_code, 1, (Option.some FieldType.boolean), ({ frames := 0, cells := 0, slots := 0, locals := 0 } : Room))
theorem pn_cei : plainFor (o_7.y M_cei) = true := plainFor_of_name (by first | (simp [plainName, overriddenIn]; done) | decide +kernel)
theorem c_cei (K : o_b) (a0 : Array Value) (hw : ∀ d ∈ tables_1, d.before a0 K.Z = true) (c : Int32) (h : Heap) (h0 : 0 ≤ c.toInt) (h1 : c.toInt < 256) :
    o_9 K M_cei #[.int c] [] h (o_c fun w h' _ => w = .int 1 ∧ h' = h) := by
  have v0 : (0 : Int32).toInt = 0 := rfl
  have v255 : (255 : Int32).toInt = 255 := rfl
  refine o_x (M := M_cei) pn_cei rfl (by first | rfl | exact o_5 (by assumption)) ?_
  refine o_2 (pc' := 1) rfl d_cei_0 rfl ?_
  refine o_5f (pcT := 15) (pcF := 4) d_cei_1 (by decide) (by decide) rfl (fun q => ?_) (fun q => ?_)
  · rw [Int32.lt_iff_toInt_lt] at q
    omega
  · skip
    refine o_2 (pc' := 5) rfl d_cei_4 rfl ?_
    refine o_1f (v := (255 : Int32)) (pc' := 8) rfl d_cei_5 rfl ?_
    refine o_4s (pcT := 15) (pcF := 11) d_cei_8 (by decide) (by decide) rfl (fun q2 => ?_) (fun q2 => ?_)
    · rw [Int32.lt_iff_toInt_lt] at q2
      omega
    · skip
      refine o_4 (v := (1 : Int32)) (pc' := 12) rfl d_cei_11 rfl ?_
      refine o_o (pc' := 16) d_cei_12 (by decide) (by decide) ?_
      refine o_y (t := .boolean) rfl (by simp) (by first | exact o_0v | exact o_0w | rfl) d_cei_16 rfl rfl ?_
      exact ⟨rfl, rfl⟩
theorem d_lic_0 : decode Bn18 0 = .ok (.iload_n 1, 1) := by decide +kernel
theorem d_lic_1 : decode Bn18 1 = .ok (.i2b, 1) := by decide +kernel
theorem d_lic_2 : decode Bn18 2 = .ok (.istore 4, 2) := by decide +kernel
theorem d_lic_4 : decode Bn18 4 = .ok (.iload_n 2, 1) := by decide +kernel
theorem d_lic_5 : decode Bn18 5 = .ok (.istore 5, 2) := by decide +kernel
theorem d_lic_7 : decode Bn18 7 = .ok (.iload 5, 2) := by decide +kernel
theorem d_lic_9 : decode Bn18 9 = .ok (.iload_n 3, 1) := by decide +kernel
theorem d_lic_10 : decode Bn18 10 = .ok (.if_icmp .ge 21, 3) := by decide +kernel
theorem d_lic_13 : decode Bn18 13 = .ok (.aload_n 0, 1) := by decide +kernel
theorem d_lic_14 : decode Bn18 14 = .ok (.iload 5, 2) := by decide +kernel
theorem d_lic_16 : decode Bn18 16 = .ok (.baload, 1) := by decide +kernel
theorem d_lic_17 : decode Bn18 17 = .ok (.iload 4, 2) := by decide +kernel
theorem d_lic_19 : decode Bn18 19 = .ok (.if_icmp .ne 6, 3) := by decide +kernel
theorem d_lic_22 : decode Bn18 22 = .ok (.iload 5, 2) := by decide +kernel
theorem d_lic_24 : decode Bn18 24 = .ok (.ireturn, 1) := by decide +kernel
theorem d_lic_25 : decode Bn18 25 = .ok (.iinc 5 1, 3) := by decide +kernel
theorem d_lic_28 : decode Bn18 28 = .ok (.goto (-21), 3) := by decide +kernel
theorem d_lic_31 : decode Bn18 31 = .ok (.iconst (-1), 1) := by decide +kernel
theorem d_lic_32 : decode Bn18 32 = .ok (.ireturn, 1) := by decide +kernel
abbrev M_lic : o_7 := (Yn80, jdk_43_method_23_code, 6, (Option.some FieldType.int), ({ frames := 0, cells := 0, slots := 0, locals := 0 } : Room))
theorem pn_lic : plainFor (o_7.y M_lic) = true := plainFor_of_name (by first | (simp [plainName, overriddenIn]; done) | decide +kernel)
theorem c_lic (K : o_b) (a0 : Array Value) (hw : ∀ d ∈ tables_1, d.before a0 K.Z = true) (b : Addr) (cs : List Int32) (ch f n : Int32) (F : Nat) (h : Heap) (hcs : o_0i cs) (ql : o_n cs = true) (c0 : 0 ≤ ch.toInt) (c1 : ch.toInt < 256) (hf : f.toInt = F) (hF : F ≤ cs.length) (hn : n.toInt = cs.length) (B : o_g K.Z h b .byte (o_p (cs.map o_04))) :
    o_9 K M_lic #[.ref b, .int ch, .int f, .int n] [] h (o_c fun w h' _ => ∃ r : Int32, w = .int r ∧ r.toInt = o_44 cs ch F ∧ h' = h) := by
  have hlen := rng32 n
  refine o_61 (M := M_lic) pn_lic rfl (by first | rfl | exact o_5 (by assumption)) (by first | rfl | exact o_5 (by assumption)) (by first | rfl | exact o_5 (by assumption)) (by first | rfl | exact o_5 (by assumption)) ?_
  refine o_2 (pc' := 1) rfl d_lic_0 rfl ?_
  refine o_4w (pc' := 2) rfl d_lic_1 ?_
  refine o_1j (pc' := 4) rfl d_lic_2 (by first | exact One.u | exact One.val rfl | assumption | exact One.val (by assumption)) ?_
  refine o_2 (pc' := 5) rfl d_lic_4 rfl ?_
  refine o_1a (pc' := 7) rfl d_lic_5 (by first | exact One.u | exact One.val rfl | assumption | exact One.val (by assumption)) ?_
  suffices key : ∀ (k i : Nat) (j : Int32), i + k = cs.length → j.toInt = i → o_3 K M_lic (o_c fun w h' _ => ∃ r : Int32, w = .int r ∧ r.toInt = o_2u cs ch k i ∧ h' = h) 7 [.val (.ref b), .val (.int ch), .val (.int f), .val (.int n), .val (.int (o_04 ch)), .val (.int j)] [] [] h 0 0 from
    key (cs.length - F) F f (by omega) hf
  intro k
  induction k with
  | zero =>
    intro i j hik hj
    refine o_a (pc' := 9) rfl d_lic_7 rfl ?_
    refine o_2 (pc' := 10) rfl d_lic_9 rfl ?_
    refine o_14 (pcT := 31) (pcF := 13) d_lic_10 (by decide) (by decide) rfl (fun q => ?_) (fun q => ?_)
    · skip
      refine o_4 (v := (-1 : Int32)) (pc' := 32) rfl d_lic_31 rfl ?_
      refine o_00 rfl d_lic_32 rfl rfl ?_
      exact ⟨_, rfl, rfl, rfl⟩
    · rw [Int32.lt_iff_toInt_lt] at q
      omega
  | succ k ih =>
    intro i j hik hj
    have hi : i < cs.length := by omega
    obtain ⟨c, hc⟩ : ∃ c, cs[i]? = some c := ⟨cs[i], by simp [hi]⟩
    have hcr := hcs c (List.mem_of_getElem? hc)
    have hcl := o_2l ql hc
    refine o_a (pc' := 9) rfl d_lic_7 rfl ?_
    refine o_2 (pc' := 10) rfl d_lic_9 rfl ?_
    refine o_14 (pcT := 31) (pcF := 13) d_lic_10 (by decide) (by decide) rfl (fun q => ?_) (fun q => ?_)
    · exact absurd (by rw [Int32.lt_iff_toInt_lt]; omega) q
    · skip
      refine o_1 (pc' := 14) rfl d_lic_13 rfl (by first | rfl | assumption) ?_
      refine o_a (pc' := 16) rfl d_lic_14 rfl ?_
      refine o_34 (pc' := 17) rfl d_lic_16 B (i := i) hj (by first | exact o_42 hc | exact o_2h hc) ?_
      refine o_a (pc' := 19) rfl d_lic_17 rfl ?_
      refine o_07 (pcT := 25) (pcF := 22) d_lic_19 (by decide) (by decide) rfl (fun q2 => ?_) (fun q2 => ?_)
      · skip
        refine o_4r (z := (1 : Int32)) (pc' := 28) rfl d_lic_25 rfl ?_
        refine o_o (pc' := 7) d_lic_28 (by decide) (by decide) ?_
        have e : o_2u cs ch (k + 1) i = o_2u cs ch k (i + 1) := by
          have : ¬ c = ch := fun z => q2 (by rw [z])
          simp [o_2u, hc, this]
        rw [e]
        exact ih (i + 1) (j + 1) (by omega) (by rw [o_20 hj (by rfl : (1 : Int32).toInt = 1)] <;> omega)
      · have e : c = ch := o_93 hcr.1 hcl c0 c1 q2
        refine o_a (pc' := 24) rfl d_lic_22 rfl ?_
        refine o_00 rfl d_lic_24 rfl rfl ?_
        exact ⟨j, rfl, by simp [o_2u, hc, e, hj], rfl⟩
theorem d_lio_0 : decode Bn15 0 = .ok (.iload_n 1, 1) := by decide +kernel
theorem d_lio_1 : decode Bn15 1 = .ok (.invokestatic 88, 3) := by decide +kernel
theorem d_lio_4 : decode Bn15 4 = .ok (.ifCond .ne 5, 3) := by decide +kernel
theorem d_lio_9 : decode Bn15 9 = .ok (.iload_n 2, 1) := by decide +kernel
theorem d_lio_10 : decode Bn15 10 = .ok (.iconst 0, 1) := by decide +kernel
theorem d_lio_11 : decode Bn15 11 = .ok (.invokestatic 92, 3) := by decide +kernel
theorem d_lio_14 : decode Bn15 14 = .ok (.istore_n 2, 1) := by decide +kernel
theorem d_lio_15 : decode Bn15 15 = .ok (.iload_n 3, 1) := by decide +kernel
theorem d_lio_16 : decode Bn15 16 = .ok (.aload_n 0, 1) := by decide +kernel
theorem d_lio_17 : decode Bn15 17 = .ok (.arraylength, 1) := by decide +kernel
theorem d_lio_18 : decode Bn15 18 = .ok (.invokestatic 38, 3) := by decide +kernel
theorem d_lio_21 : decode Bn15 21 = .ok (.istore_n 3, 1) := by decide +kernel
theorem d_lio_22 : decode Bn15 22 = .ok (.iload_n 2, 1) := by decide +kernel
theorem d_lio_23 : decode Bn15 23 = .ok (.iload_n 3, 1) := by decide +kernel
theorem d_lio_24 : decode Bn15 24 = .ok (.if_icmp .lt 5, 3) := by decide +kernel
theorem d_lio_27 : decode Bn15 27 = .ok (.iconst (-1), 1) := by decide +kernel
theorem d_lio_28 : decode Bn15 28 = .ok (.ireturn, 1) := by decide +kernel
theorem d_lio_29 : decode Bn15 29 = .ok (.aload_n 0, 1) := by decide +kernel
theorem d_lio_30 : decode Bn15 30 = .ok (.iload_n 1, 1) := by decide +kernel
theorem d_lio_31 : decode Bn15 31 = .ok (.iload_n 2, 1) := by decide +kernel
theorem d_lio_32 : decode Bn15 32 = .ok (.iload_n 3, 1) := by decide +kernel
theorem d_lio_33 : decode Bn15 33 = .ok (.invokestatic 95, 3) := by decide +kernel
theorem d_lio_36 : decode Bn15 36 = .ok (.ireturn, 1) := by decide +kernel
abbrev M_lio : o_7 := (Yn81, jdk_43_method_22_code, 4, (Option.some FieldType.int), ({ frames := 1, cells := 0, slots := 0, locals := 17 } : Room))
theorem pn_lio : plainFor (o_7.y M_lio) = true := plainFor_of_name (by first | (simp [plainName, overriddenIn]; done) | decide +kernel)
theorem c_lio (K : o_b) (a0 : Array Value) (hw : ∀ d ∈ tables_1, d.before a0 K.Z = true) (b : Addr) (cs : List Int32) (ch f n : Int32) (F : Nat) (h : Heap) (hcs : o_0i cs) (ql : o_n cs = true) (c0 : 0 ≤ ch.toInt) (c1 : ch.toInt < 256) (hf : f.toInt = F) (hF : F ≤ cs.length) (hn : n.toInt = cs.length) (B : o_g K.Z h b .byte (o_p (cs.map o_04))) :
    o_9 K M_lio #[.ref b, .int ch, .int f, .int n] [] h (o_c fun w h' _ => ∃ r : Int32, w = .int r ∧ r.toInt = o_44 cs ch F ∧ h' = h) := by
  have v0 : (0 : Int32).toInt = 0 := rfl
  refine o_3g (M := M_lio) pn_lio rfl (by first | rfl | exact o_5 (by assumption)) (by first | rfl | exact o_5 (by assumption)) (by first | rfl | exact o_5 (by assumption)) (by first | rfl | exact o_5 (by assumption)) ?_
  refine o_2 (pc' := 1) rfl d_lio_0 rfl ?_
  refine o_03 (M' := M_cei) d_lio_1 (pc' := 4) rfl (o_0 hw 354 rfl) (o_0 hw 355 rfl) (tw_7 hw) (o_0 hw 356 rfl) (by decide) rfl (o_6 pd_36 rfl) rfl rfl rfl rfl (c_cei K a0 hw ch h c0 c1) (by simp) ?_
  rintro w h1 xs ⟨rfl, rfl⟩
  refine o_0k (pcT := 9) (pcF := 7) d_lio_4 (by decide) (by decide) rfl (fun q => ?_) (fun q => ?_)
  · skip
    refine o_2 (pc' := 10) rfl d_lio_9 rfl ?_
    refine o_4 (v := (0 : Int32)) (pc' := 11) rfl d_lio_10 rfl ?_
    refine o_0n (M' := M_mmx) d_lio_11 (pc' := 14) rfl (o_0 hw 357 rfl) (tw_280 hw) (tw_281 hw) (tw_282 hw) (by decide) rfl (o_6 pd_16 rfl) rfl rfl rfl rfl (c_mmx K a0 hw f 0 _) (by simp) ?_
    rintro w h2 xs2 ⟨r, rfl, hr, rfl⟩
    obtain rfl : r = f := by rcases hr with ⟨z, rfl⟩ | ⟨z, rfl⟩ <;> first | rfl | (exfalso; omega)
    refine o_2s (pc' := 15) rfl d_lio_14 (by first | exact One.u | exact One.val rfl | assumption | exact One.val (by assumption)) ?_
    refine o_2 (pc' := 16) rfl d_lio_15 rfl ?_
    refine o_1 (pc' := 17) rfl d_lio_16 rfl (by first | rfl | assumption) ?_
    refine o_01 (z := n) (pc' := 18) rfl d_lio_17 B (by rw [hn]; simp) ?_
    refine o_0n (M' := M_mmn) d_lio_18 (pc' := 21) rfl (o_0 hw 358 rfl) (tw_359 hw) (tw_281 hw) (tw_360 hw) (by decide) rfl (o_6 pd_16 rfl) rfl rfl rfl rfl (c_mmn K a0 hw n n _) (by simp) ?_
    rintro w h3 xs3 ⟨r3, rfl, hr3, rfl⟩
    obtain rfl : r3 = n := by rcases hr3 with ⟨z, rfl⟩ | ⟨z, rfl⟩ <;> rfl
    refine o_1i (pc' := 22) rfl d_lio_21 (by first | exact One.u | exact One.val rfl | assumption | exact One.val (by assumption)) ?_
    refine o_2 (pc' := 23) rfl d_lio_22 rfl ?_
    refine o_2 (pc' := 24) rfl d_lio_23 rfl ?_
    refine o_1g (pcT := 29) (pcF := 27) d_lio_24 (by decide) (by decide) rfl (fun q2 => ?_) (fun q2 => ?_)
    · skip
      refine o_1 (pc' := 30) rfl d_lio_29 rfl (by first | rfl | assumption) ?_
      refine o_2 (pc' := 31) rfl d_lio_30 rfl ?_
      refine o_2 (pc' := 32) rfl d_lio_31 rfl ?_
      refine o_2 (pc' := 33) rfl d_lio_32 rfl ?_
      refine o_2d (M' := M_lic) d_lio_33 (pc' := 36) rfl (o_0 hw 361 rfl) (o_0 hw 362 rfl) (tw_7 hw) (o_0 hw 363 rfl) (by decide) rfl (o_6 pd_37 rfl) rfl rfl rfl rfl (c_lic K a0 hw b cs ch _ _ F _ hcs ql c0 c1 hf hF hn B) (by simp) ?_
      rintro w h4 xs4 ⟨r4, rfl, hr4, rfl⟩
      refine o_00 rfl d_lio_36 rfl rfl ?_
      exact ⟨r4, rfl, hr4, rfl⟩
    · rw [Int32.lt_iff_toInt_lt] at q2
      refine o_4 (v := (-1 : Int32)) (pc' := 28) rfl d_lio_27 rfl ?_
      refine o_00 rfl d_lio_28 rfl rfl ?_
      exact ⟨_, rfl, by show (-1 : Int32).toInt = o_2u cs ch (cs.length - F) F; rw [show cs.length - F = 0 by omega]; rfl, rfl⟩
  · exact absurd q (by decide)
theorem d_pft_0 : decode Bn42 0 = .ok (.iload_n 0, 1) := by decide +kernel
theorem d_pft_1 : decode Bn42 1 = .ok (.ifCond .lt 13, 3) := by decide +kernel
theorem d_pft_4 : decode Bn42 4 = .ok (.iload_n 0, 1) := by decide +kernel
theorem d_pft_5 : decode Bn42 5 = .ok (.iload_n 1, 1) := by decide +kernel
theorem d_pft_6 : decode Bn42 6 = .ok (.if_icmp .gt 8, 3) := by decide +kernel
theorem d_pft_9 : decode Bn42 9 = .ok (.iload_n 1, 1) := by decide +kernel
theorem d_pft_10 : decode Bn42 10 = .ok (.iload_n 2, 1) := by decide +kernel
theorem d_pft_11 : decode Bn42 11 = .ok (.if_icmp .le 11, 3) := by decide +kernel
theorem d_pft_22 : decode Bn42 22 = .ok (.iload_n 0, 1) := by decide +kernel
theorem d_pft_23 : decode Bn42 23 = .ok (.ireturn, 1) := by decide +kernel
abbrev M_pft : o_7 := (Yn82, jdk_41_method_12_code, 4, (Option.some FieldType.int), ({ frames := 0, cells := 0, slots := 0, locals := 0 } : Room))
theorem pn_pft : plainFor (o_7.y M_pft) = true := plainFor_of_name (by first | (simp [plainName, overriddenIn]; done) | decide +kernel)
theorem c_pft (K : o_b) (a0 : Array Value) (hw : ∀ d ∈ tables_1, d.before a0 K.Z = true) (rf : Value) (hrf : rf.isRef = true) (i j n : Int32) (h : Heap) (h0 : 0 ≤ i.toInt) (h1 : i.toInt ≤ j.toInt) (h2 : j.toInt ≤ n.toInt) :
    o_9 K M_pft #[.int i, .int j, .int n, rf] [] h (o_c fun w h' _ => w = .int i ∧ h' = h) := by
  have v0 : (0 : Int32).toInt = 0 := rfl
  refine o_3g (M := M_pft) pn_pft rfl (by first | rfl | exact o_5 (by assumption)) (by first | rfl | exact o_5 (by assumption)) (by first | rfl | exact o_5 (by assumption)) (by first | rfl | exact o_5 (by assumption)) ?_
  refine o_2 (pc' := 1) rfl d_pft_0 rfl ?_
  refine o_5f (pcT := 14) (pcF := 4) d_pft_1 (by decide) (by decide) rfl (fun q => ?_) (fun q => ?_)
  · rw [Int32.lt_iff_toInt_lt] at q
    omega
  · skip
    refine o_2 (pc' := 5) rfl d_pft_4 rfl ?_
    refine o_2 (pc' := 6) rfl d_pft_5 rfl ?_
    refine o_4s (pcT := 14) (pcF := 9) d_pft_6 (by decide) (by decide) rfl (fun q2 => ?_) (fun q2 => ?_)
    · rw [Int32.lt_iff_toInt_lt] at q2
      omega
    · skip
      refine o_2 (pc' := 10) rfl d_pft_9 rfl ?_
      refine o_2 (pc' := 11) rfl d_pft_10 rfl ?_
      refine o_1m (pcT := 22) (pcF := 14) d_pft_11 (by decide) (by decide) rfl (fun q3 => ?_) (fun q3 => ?_)
      · skip
        refine o_2 (pc' := 23) rfl d_pft_22 rfl ?_
        refine o_00 rfl d_pft_23 rfl rfl ?_
        exact ⟨rfl, rfl⟩
      · rw [Int32.lt_iff_toInt_lt] at q3
        omega
theorem d_sbe_0 : decode Bn65 0 = .ok (.iload_n 0, 1) := by decide +kernel
theorem d_sbe_1 : decode Bn65 1 = .ok (.iload_n 1, 1) := by decide +kernel
theorem d_sbe_2 : decode Bn65 2 = .ok (.iload_n 2, 1) := by decide +kernel
theorem d_sbe_3 : decode Bn65 3 = .ok (.getstatic 1053, 3) := by decide +kernel
theorem d_sbe_6 : decode Bn65 6 = .ok (.invokestatic 1062, 3) := by decide +kernel
theorem d_sbe_9 : decode Bn65 9 = .ok (.pop, 1) := by decide +kernel
theorem d_sbe_10 : decode Bn65 10 = .ok (.return_, 1) := by decide +kernel
abbrev M_sbe : o_7 := (Yn83, jdk_42_method_158_code, 3, (Option.none : Option FieldType), ({ frames := 1, cells := 0, slots := 0, locals := 15 } : Room))
theorem pn_sbe : plainFor (o_7.y M_sbe) = true := plainFor_of_name (by first | (simp [plainName, overriddenIn]; done) | decide +kernel)
theorem c_sbe (K : o_b) (a0 : Array Value) (hw : ∀ d ∈ tables_1, d.before a0 K.Z = true) (rf : Value) (hrf : rf.isRef = true) (SF : Sta K.Z K.Z.heap "jdk/internal/util/Preconditions" "SIOOBE_FORMATTER" "Ljava/util/function/BiFunction;" rf) (i j n : Int32) (h : Heap) (h0 : 0 ≤ i.toInt) (h1 : i.toInt ≤ j.toInt) (h2 : j.toInt ≤ n.toInt) :
    o_9 K M_sbe #[.int i, .int j, .int n] [] h (o_09 fun h' _ => h' = h) := by
  refine o_1d (M := M_sbe) pn_sbe rfl (by first | rfl | exact o_5 (by assumption)) (by first | rfl | exact o_5 (by assumption)) (by first | rfl | exact o_5 (by assumption)) ?_
  refine o_2 (pc' := 1) rfl d_sbe_0 rfl ?_
  refine o_2 (pc' := 2) rfl d_sbe_1 rfl ?_
  refine o_2 (pc' := 3) rfl d_sbe_2 rfl ?_
  refine o_2o (pc' := 6) rfl d_sbe_3 (o_0 hw 372 rfl) Via.refl SF ?_
  refine o_2d (M' := M_pft) d_sbe_6 (pc' := 9) rfl (o_0 hw 373 rfl) (o_0 hw 374 rfl) (tw_302 hw) (o_0 hw 375 rfl) (by decide) rfl (o_6 pd_38 rfl) rfl rfl rfl rfl (c_pft K a0 hw rf hrf i j n h h0 h1 h2) (by simp) ?_
  rintro w h1 xs ⟨rfl, rfl⟩
  refine o_28 (pc' := 10) rfl d_sbe_9 (by first | rfl | assumption) ?_
  refine o_0b rfl d_sbe_10 rfl rfl ?_
  rfl
theorem d_six_0 : decode Bn34 0 = .ok (.aload_n 0, 1) := by decide +kernel
theorem d_six_1 : decode Bn34 1 = .ok (.invokevirtual 492, 3) := by decide +kernel
theorem d_six_4 : decode Bn34 4 = .ok (.ifCond .eq 19, 3) := by decide +kernel
theorem d_six_7 : decode Bn34 7 = .ok (.aload_n 0, 1) := by decide +kernel
theorem d_six_8 : decode Bn34 8 = .ok (.getfield 9, 3) := by decide +kernel
theorem d_six_11 : decode Bn34 11 = .ok (.iload_n 1, 1) := by decide +kernel
theorem d_six_12 : decode Bn34 12 = .ok (.iload_n 2, 1) := by decide +kernel
theorem d_six_13 : decode Bn34 13 = .ok (.aload_n 0, 1) := by decide +kernel
theorem d_six_14 : decode Bn34 14 = .ok (.invokevirtual 505, 3) := by decide +kernel
theorem d_six_17 : decode Bn34 17 = .ok (.invokestatic 637, 3) := by decide +kernel
theorem d_six_20 : decode Bn34 20 = .ok (.goto 16, 3) := by decide +kernel
theorem d_six_36 : decode Bn34 36 = .ok (.ireturn, 1) := by decide +kernel
abbrev M_six : o_7 := (Yn84, jdk_42_method_80_code, 3, (Option.some FieldType.int), ({ frames := 2, cells := 0, slots := 0, locals := 32 } : Room))
theorem pn_six : plainFor (o_7.y M_six) = true := plainFor_of_name (by first | (simp [plainName, overriddenIn]; done) | decide +kernel)
theorem c_six (K : o_b) (a0 : Array Value) (hw : ∀ d ∈ tables_1, d.before a0 K.Z = true)
    (g : Int32) (SC : Sta K.Z K.Z.heap o_l "COMPACT_STRINGS" "Z" (.int g)) (hg : ¬ g = 0) (x : Addr) (cs : List Int32) (ch f : Int32) (F : Nat) (h : Heap) (S : o_h K.Z h x cs)
    (hlat : o_n cs = true)
    (hl : cs.length < 2 ^ 29) (c0 : 0 ≤ ch.toInt) (c1 : ch.toInt < 256) (hf : f.toInt = F) (hF : F ≤ cs.length) :
    o_9 K M_six #[.ref x, .int ch, .int f] [] h (o_c fun w h' _ => ∃ r : Int32, w = .int r ∧ r.toInt = o_44 cs ch F ∧ h' = h) := by
  have S' := S
  obtain ⟨E, hcs, -, b, FV, FC, B⟩ := S
  have hn : (cs.length.toInt32).toInt = cs.length := o_0o _ (by omega)
  refine o_1d (M := M_six) pn_six rfl (by first | rfl | exact o_5 (by assumption)) (by first | rfl | exact o_5 (by assumption)) (by first | rfl | exact o_5 (by assumption)) ?_
  refine o_1 (pc' := 1) rfl d_six_0 rfl (by first | rfl | assumption) ?_
  refine o_0p (M' := M_isl) d_six_1 (pc' := 4) rfl (tw_346 hw) (tw_347 hw) (tw_349 hw) (tw_348 hw) (tw_2 hw) (tw_350 hw) (by decide) rfl (o_6 pd_11 rfl) rfl rfl rfl rfl E (c_isl K a0 hw g SC hg x cs h S') (by simp) ?_
  rintro w h1 xs ⟨rfl, rfl⟩
  cases ql : o_n cs
  · rw [hlat] at ql; cases ql
  · skip
    refine o_k (pcT := 23) (pcF := 7) d_six_4 (by decide) (by decide) rfl (fun q => ?_) (fun q => ?_)
    · exact absurd q (by simp)
    · skip
      refine o_1 (pc' := 8) rfl d_six_7 rfl (by first | rfl | assumption) ?_
      refine o_q (pc' := 11) rfl d_six_8 (tw_22 hw) Via.refl FV ?_
      refine o_2 (pc' := 12) rfl d_six_11 rfl ?_
      refine o_2 (pc' := 13) rfl d_six_12 rfl ?_
      refine o_1 (pc' := 14) rfl d_six_13 rfl (by first | rfl | assumption) ?_
      refine o_0p (M' := M_sl) d_six_14 (pc' := 17) rfl (tw_321 hw) (tw_322 hw) (tw_324 hw) (tw_323 hw) (tw_2 hw) (tw_325 hw) (by decide) rfl (o_6 pd_13 rfl) rfl rfl rfl rfl E (c_sl K a0 hw g SC hg x cs _ S') (by simp) ?_
      rintro w h2 xs2 ⟨rfl, rfl⟩
      rw [(o_0e ql).1] at B
      refine o_2d (M' := M_lio) d_six_17 (pc' := 20) rfl (o_0 hw 351 rfl) (o_0 hw 352 rfl) (tw_7 hw) (o_0 hw 353 rfl) (by decide) rfl (o_6 pd_37 rfl) rfl rfl rfl rfl (c_lio K a0 hw b cs ch f _ F _ hcs ql c0 c1 hf hF hn B) (by simp) ?_
      rintro w h3 xs3 ⟨r, rfl, hr, rfl⟩
      refine o_o (pc' := 36) d_six_20 (by decide) (by decide) ?_
      refine o_00 rfl d_six_36 rfl rfl ?_
      exact ⟨r, rfl, hr, rfl⟩
theorem d_si1x_0 : decode Bn82 0 = .ok (.aload_n 0, 1) := by decide +kernel
theorem d_si1x_1 : decode Bn82 1 = .ok (.iload_n 1, 1) := by decide +kernel
theorem d_si1x_2 : decode Bn82 2 = .ok (.iconst 0, 1) := by decide +kernel
theorem d_si1x_3 : decode Bn82 3 = .ok (.invokevirtual 633, 3) := by decide +kernel
theorem d_si1x_6 : decode Bn82 6 = .ok (.ireturn, 1) := by decide +kernel
abbrev M_si1x : o_7 := (Yn85, jdk_42_method_79_code, 2, (Option.some FieldType.int), ({ frames := 3, cells := 0, slots := 0, locals := 46 } : Room))
theorem pn_si1x : plainFor (o_7.y M_si1x) = true := plainFor_of_name (by first | (simp [plainName, overriddenIn]; done) | decide +kernel)
theorem c_si1x (K : o_b) (a0 : Array Value) (hw : ∀ d ∈ tables_1, d.before a0 K.Z = true)
    (g : Int32) (SC : Sta K.Z K.Z.heap o_l "COMPACT_STRINGS" "Z" (.int g)) (hg : ¬ g = 0) (x : Addr) (cs : List Int32) (ch : Int32) (h : Heap) (S : o_h K.Z h x cs)
    (hlat : o_n cs = true)
    (hl : cs.length < 2 ^ 29) (c0 : 0 ≤ ch.toInt) (c1 : ch.toInt < 256) :
    o_9 K M_si1x #[.ref x, .int ch] [] h (o_c fun w h' _ => ∃ r : Int32, w = .int r ∧ r.toInt = o_44 cs ch 0 ∧ h' = h) := by
  refine o_08 (M := M_si1x) pn_si1x rfl (by first | rfl | exact o_5 (by assumption)) (by first | rfl | exact o_5 (by assumption)) ?_
  refine o_1 (pc' := 1) rfl d_si1x_0 rfl (by first | rfl | assumption) ?_
  refine o_2 (pc' := 2) rfl d_si1x_1 rfl ?_
  refine o_4 (v := (0 : Int32)) (pc' := 3) rfl d_si1x_2 rfl ?_
  refine o_2r (M' := M_six) d_si1x_3 (pc' := 6) rfl (o_0 hw 341 rfl) (o_0 hw 342 rfl) (o_0 hw 344 rfl) (o_0 hw 343 rfl) (tw_2 hw) (o_0 hw 345 rfl) (by decide) rfl (o_6 pd_16 rfl) rfl rfl rfl rfl S.1 (c_six K a0 hw g SC hg x cs ch 0 0 h S hlat hl c0 c1 rfl (Nat.zero_le _)) (by simp) ?_
  rintro w h1 xs ⟨r, rfl, hr, rfl⟩
  refine o_00 rfl d_si1x_6 rfl rfl ?_
  exact ⟨r, rfl, hr, rfl⟩
/-! Arrays.copyOfRange of bytes, where it does not take the whole array -/
theorem o_67 (xs : List Int32) (q : ∀ x ∈ xs, ∃ c : Int32, x = c.toInt8.toInt32) : ∀ v ∈ o_p xs, fits .byte v = true := by
  intro v hv
  obtain ⟨x, hx, rfl⟩ := List.mem_map.mp hv
  obtain ⟨c, rfl⟩ := q x hx
  exact fits_nar_byte c
def o_1k (vs : List Value) : Prop := ∀ v ∈ vs, fits .byte v = true
theorem o_1k.app {vs ws : List Value} (h1 : o_1k vs) (h2 : o_1k ws) : o_1k (vs ++ ws) := fun v hv => (List.mem_append.mp hv).elim (h1 v) (h2 v)
theorem o_1k.zero (n : Nat) : o_1k (List.replicate n (.int 0)) := fun v hv => by
  cases (List.mem_replicate.mp hv).2
  rfl
theorem o_1k.lat (cs : List Int32) : o_1k (o_p (cs.map o_04)) := o_67 _ (fun x hx => by obtain ⟨c, -, rfl⟩ := List.mem_map.mp hx; exact ⟨c, rfl⟩)
theorem o_1k.two (cs : List Int32) : o_1k (o_p (o_2m cs)) := o_67 _ (fun x hx => by
  obtain ⟨c, -, hc⟩ := List.mem_flatMap.mp hx
  simp only [List.mem_cons, List.not_mem_nil, or_false] at hc
  rcases hc with rfl | rfl
  · exact ⟨c, rfl⟩
  · exact ⟨_, rfl⟩)
theorem o_1k.enc (cs : List Int32) : o_1k (o_p (o_1r cs)) := by
  unfold o_1r
  split
  · exact o_1k.lat cs
  · exact o_1k.two cs
theorem d_ckl_0 : decode Bn78 0 = .ok (.iload_n 1, 1) := by decide +kernel
theorem d_ckl_1 : decode Bn78 1 = .ok (.iload_n 0, 1) := by decide +kernel
theorem d_ckl_2 : decode Bn78 2 = .ok (.if_icmp .ge 35, 3) := by decide +kernel
theorem d_ckl_37 : decode Bn78 37 = .ok (.return_, 1) := by decide +kernel
abbrev M_ckl : o_7 := (Yn32, jdk_65_method_131_code, 2, (Option.none : Option FieldType), ({ frames := 0, cells := 0, slots := 0, locals := 0 } : Room))
theorem pn_ckl : plainFor (o_7.y M_ckl) = true := plainFor_of_name (by first | (simp [plainName, overriddenIn]; done) | decide +kernel)
theorem c_ckl (K : o_b) (a0 : Array Value) (hw : ∀ d ∈ tables_1, d.before a0 K.Z = true) (f t : Int32) (h : Heap) (q : f.toInt ≤ t.toInt) :
    o_9 K M_ckl #[.int f, .int t] [] h (o_09 fun h' _ => h' = h) := by
  refine o_08 (M := M_ckl) pn_ckl rfl (by first | rfl | exact o_5 (by assumption)) (by first | rfl | exact o_5 (by assumption)) ?_
  refine o_2 (pc' := 1) rfl d_ckl_0 rfl ?_
  refine o_2 (pc' := 2) rfl d_ckl_1 rfl ?_
  refine o_14 (pcT := 37) (pcF := 5) d_ckl_2 (by decide) (by decide) rfl (fun z => ?_) (fun z => ?_)
  · skip
    refine o_0b rfl d_ckl_37 rfl rfl ?_
    rfl
  · rw [Int32.lt_iff_toInt_lt] at z
    omega
theorem d_cob_0 : decode Bn12 0 = .ok (.iload_n 1, 1) := by decide +kernel
theorem d_cob_1 : decode Bn12 1 = .ok (.iload_n 2, 1) := by decide +kernel
theorem d_cob_2 : decode Bn12 2 = .ok (.invokestatic 343, 3) := by decide +kernel
theorem d_cob_5 : decode Bn12 5 = .ok (.iload_n 2, 1) := by decide +kernel
theorem d_cob_6 : decode Bn12 6 = .ok (.iload_n 1, 1) := by decide +kernel
theorem d_cob_7 : decode Bn12 7 = .ok (.isub, 1) := by decide +kernel
theorem d_cob_8 : decode Bn12 8 = .ok (.istore_n 3, 1) := by decide +kernel
theorem d_cob_9 : decode Bn12 9 = .ok (.iload_n 3, 1) := by decide +kernel
theorem d_cob_10 : decode Bn12 10 = .ok (.newarray .byte, 2) := by decide +kernel
theorem d_cob_12 : decode Bn12 12 = .ok (.astore 4, 2) := by decide +kernel
theorem d_cob_14 : decode Bn12 14 = .ok (.aload_n 0, 1) := by decide +kernel
theorem d_cob_15 : decode Bn12 15 = .ok (.iload_n 1, 1) := by decide +kernel
theorem d_cob_16 : decode Bn12 16 = .ok (.aload 4, 2) := by decide +kernel
theorem d_cob_18 : decode Bn12 18 = .ok (.iconst 0, 1) := by decide +kernel
theorem d_cob_19 : decode Bn12 19 = .ok (.aload_n 0, 1) := by decide +kernel
theorem d_cob_20 : decode Bn12 20 = .ok (.arraylength, 1) := by decide +kernel
theorem d_cob_21 : decode Bn12 21 = .ok (.iload_n 1, 1) := by decide +kernel
theorem d_cob_22 : decode Bn12 22 = .ok (.isub, 1) := by decide +kernel
theorem d_cob_23 : decode Bn12 23 = .ok (.iload_n 3, 1) := by decide +kernel
theorem d_cob_24 : decode Bn12 24 = .ok (.invokestatic 304, 3) := by decide +kernel
theorem d_cob_27 : decode Bn12 27 = .ok (.invokestatic 150, 3) := by decide +kernel
theorem d_cob_30 : decode Bn12 30 = .ok (.aload 4, 2) := by decide +kernel
theorem d_cob_32 : decode Bn12 32 = .ok (.areturn, 1) := by decide +kernel
abbrev M_cob : o_7 := (Yn31, jdk_65_method_133_code, 5, (Option.some (FieldType.array FieldType.byte)), ({ frames := 1, cells := 1, slots := 7, locals := 40 } : Room))
theorem pn_cob : plainFor (o_7.y M_cob) = true := plainFor_of_name (by first | (simp [plainName, overriddenIn]; done) | decide +kernel)
theorem c_cob (K : o_b) (a0 : Array Value) (hw : ∀ d ∈ tables_1, d.before a0 K.Z = true) (b : Addr) (f t : Int32) (F T : Nat) (vs : List Value) (h : Heap) (hf : f.toInt = F) (ht : t.toInt = T) (hFT : F ≤ T) (hT : T ≤ vs.length) (hcap : T - F ≤ 7) (hby : o_1k vs) (B : o_g K.Z h b .byte vs) :
    o_9 K M_cob #[.ref b, .int f, .int t] [] h (o_c fun w h' xs => ∃ b' : Addr, w = .ref b' ∧ Ext h h' ∧ h.size ≤ b' ∧ b' ∈ xs ∧ o_g K.Z h' b' .byte ((vs.drop F).take (T - F))) := by
  have hlv : vs.length < 2 ^ 31 := by obtain ⟨_, _, _, r⟩ := B; exact r
  have hz : (vs.length.toInt32).toInt = vs.length := o_0o _ hlv
  have hd : (t - f).toInt = ((T - F : Nat) : Int) := by rw [o_4b ht hf] <;> omega
  have hd2 : (vs.length.toInt32 - f).toInt = ((vs.length - F : Nat) : Int) := by rw [o_4b hz hf] <;> omega
  refine o_5b (M := M_cob) pn_cob rfl (by first | rfl | exact o_5 (by assumption)) (by first | rfl | exact o_5 (by assumption)) (by first | rfl | exact o_5 (by assumption)) ?_
  refine o_2 (pc' := 1) rfl d_cob_0 rfl ?_
  refine o_2 (pc' := 2) rfl d_cob_1 rfl ?_
  refine o_5p (M' := M_ckl) d_cob_2 (pc' := 5) rfl (tw_387 hw) (tw_388 hw) (tw_382 hw) (tw_389 hw) (by decide) rfl (o_6 pd_39 rfl) rfl rfl rfl rfl (c_ckl K a0 hw f t h (by omega)) (by simp) ?_
  rintro h1 xs rfl
  refine o_2 (pc' := 6) rfl d_cob_5 rfl ?_
  refine o_2 (pc' := 7) rfl d_cob_6 rfl ?_
  refine o_2x (pc' := 8) rfl d_cob_7 ?_
  refine o_1i (pc' := 9) rfl d_cob_8 (by first | exact One.u | exact One.val rfl | assumption | exact One.val (by assumption)) ?_
  refine o_2 (pc' := 10) rfl d_cob_9 rfl ?_
  refine o_1p (pc' := 12) rfl d_cob_10 (tw_14 hw) (N := (T - F)) (cap := 7) hd hcap rfl rfl rfl ?_
  intro b2 h2 eb2 E2 B2
  refine o_40 (pc' := 14) rfl d_cob_12 (by first | exact One.u | exact One.val rfl | assumption | exact One.val (by assumption)) (by first | rfl | assumption) ?_
  refine o_1 (pc' := 15) rfl d_cob_14 rfl (by first | rfl | assumption) ?_
  refine o_2 (pc' := 16) rfl d_cob_15 rfl ?_
  refine o_d (pc' := 18) rfl d_cob_16 rfl (by first | rfl | assumption) ?_
  refine o_4 (v := (0 : Int32)) (pc' := 19) rfl d_cob_18 rfl ?_
  refine o_1 (pc' := 20) rfl d_cob_19 rfl (by first | rfl | assumption) ?_
  refine o_01 (z := vs.length.toInt32) (pc' := 21) rfl d_cob_20 (B.ext E2) hz ?_
  refine o_2 (pc' := 22) rfl d_cob_21 rfl ?_
  refine o_2x (pc' := 23) rfl d_cob_22 ?_
  refine o_2 (pc' := 24) rfl d_cob_23 rfl ?_
  refine o_0n (M' := M_mmn) d_cob_24 (pc' := 27) rfl (tw_390 hw) (tw_359 hw) (tw_281 hw) (tw_360 hw) (by decide) rfl (o_6 pd_16 rfl) rfl rfl rfl rfl (c_mmn K a0 hw (vs.length.toInt32 - f) (t - f) h2) (by simp) ?_
  rintro w h3 xs3 ⟨r, rfl, hr, rfl⟩
  have hr' : r.toInt = ((T - F : Nat) : Int) := by rcases hr with ⟨z, rfl⟩ | ⟨z, rfl⟩ <;> omega
  refine o_6s (pc' := 30) rfl d_cob_27 (tw_391 hw) (tw_394 hw) (tw_392 hw) (tw_393 hw) rfl rfl rfl rfl (B.ext E2) B2 hby (o_1k.zero _) (S := F) (D := 0) (N := (T - F)) hf rfl hr' (by omega) (by simp) (by simp) ?_
  intro h4 k4 B4
  refine o_d (pc' := 32) rfl d_cob_30 rfl (by first | rfl | assumption) ?_
  refine o_i rfl rfl (by first | rfl | assumption) d_cob_32 rfl rfl ?_
  refine ⟨b2, rfl, o_f E2 k4 (by intro x hx; cases List.mem_singleton.mp hx; omega), by omega, by simp, ?_⟩
  have e : ((List.replicate (T - F) (Value.int 0)).take 0 ++ (vs.drop F).take (T - F) ++ (List.replicate (T - F) (Value.int 0)).drop (0 + (T - F))) = (vs.drop F).take (T - F) := by simp
  rw [← e]
  exact B4
theorem d_cor_0 : decode Bn35 0 = .ok (.iload_n 1, 1) := by decide +kernel
theorem d_cor_1 : decode Bn35 1 = .ok (.ifCond .ne 9, 3) := by decide +kernel
theorem d_cor_4 : decode Bn35 4 = .ok (.iload_n 2, 1) := by decide +kernel
theorem d_cor_5 : decode Bn35 5 = .ok (.aload_n 0, 1) := by decide +kernel
theorem d_cor_6 : decode Bn35 6 = .ok (.arraylength, 1) := by decide +kernel
theorem d_cor_7 : decode Bn35 7 = .ok (.if_icmp .eq 10, 3) := by decide +kernel
theorem d_cor_10 : decode Bn35 10 = .ok (.aload_n 0, 1) := by decide +kernel
theorem d_cor_11 : decode Bn35 11 = .ok (.iload_n 1, 1) := by decide +kernel
theorem d_cor_12 : decode Bn35 12 = .ok (.iload_n 2, 1) := by decide +kernel
theorem d_cor_13 : decode Bn35 13 = .ok (.invokestatic 339, 3) := by decide +kernel
theorem d_cor_16 : decode Bn35 16 = .ok (.areturn, 1) := by decide +kernel
abbrev M_cor : o_7 := (Yn86, jdk_65_method_132_code, 3, (Option.some (FieldType.array FieldType.byte)), ({ frames := 2, cells := 1, slots := 7, locals := 56 } : Room))
theorem pn_cor : plainFor (o_7.y M_cor) = true := plainFor_of_name (by first | (simp [plainName, overriddenIn]; done) | decide +kernel)
theorem c_cor (K : o_b) (a0 : Array Value) (hw : ∀ d ∈ tables_1, d.before a0 K.Z = true) (b : Addr) (f t : Int32) (F T : Nat) (vs : List Value) (h : Heap) (hf : f.toInt = F) (ht : t.toInt = T) (hFT : F ≤ T) (hT : T ≤ vs.length) (hne : F = 0 → T ≠ vs.length) (hcap : T - F ≤ 7) (hby : o_1k vs) (B : o_g K.Z h b .byte vs) :
    o_9 K M_cor #[.ref b, .int f, .int t] [] h (o_c fun w h' xs => ∃ b' : Addr, w = .ref b' ∧ Ext h h' ∧ h.size ≤ b' ∧ b' ∈ xs ∧ o_g K.Z h' b' .byte ((vs.drop F).take (T - F))) := by
  have hlv : vs.length < 2 ^ 31 := by obtain ⟨_, _, _, r⟩ := B; exact r
  have hz : (vs.length.toInt32).toInt = vs.length := o_0o _ hlv
  have key : o_3 K M_cor (o_c fun w h' xs => ∃ b' : Addr, w = .ref b' ∧ Ext h h' ∧ h.size ≤ b' ∧ b' ∈ xs ∧ o_g K.Z h' b' .byte ((vs.drop F).take (T - F))) 10 [.val (.ref b), .val (.int f), .val (.int t)] [] [] h 0 0 := by
    refine o_1 (pc' := 11) rfl d_cor_10 rfl (by first | rfl | assumption) ?_
    refine o_2 (pc' := 12) rfl d_cor_11 rfl ?_
    refine o_2 (pc' := 13) rfl d_cor_12 rfl ?_
    refine o_13 (M' := M_cob) d_cor_13 (pc' := 16) rfl (tw_384 hw) (tw_385 hw) (tw_382 hw) (tw_386 hw) (by decide) rfl (o_6 pd_40 rfl) rfl rfl rfl rfl (c_cob K a0 hw b f t F T vs h hf ht hFT hT hcap hby B) (by simp) ?_
    rintro w h1 xs ⟨b', rfl, E1, hb', hx, B'⟩
    refine o_i rfl rfl (by first | rfl | assumption) d_cor_16 rfl rfl ?_
    exact ⟨b', rfl, E1, hb', by simp [hx], B'⟩
  refine o_1d (M := M_cor) pn_cor rfl (by first | rfl | exact o_5 (by assumption)) (by first | rfl | exact o_5 (by assumption)) (by first | rfl | exact o_5 (by assumption)) ?_
  refine o_2 (pc' := 1) rfl d_cor_0 rfl ?_
  refine o_0k (pcT := 10) (pcF := 4) d_cor_1 (by decide) (by decide) rfl (fun q => ?_) (fun q => ?_)
  · exact key
  · have hF0 : F = 0 := by rw [q] at hf; have : (0 : Int32).toInt = 0 := rfl; omega
    refine o_2 (pc' := 5) rfl d_cor_4 rfl ?_
    refine o_1 (pc' := 6) rfl d_cor_5 rfl (by first | rfl | assumption) ?_
    refine o_01 (z := vs.length.toInt32) (pc' := 7) rfl d_cor_6 B hz ?_
    refine o_33 (pcT := 17) (pcF := 10) d_cor_7 (by decide) (by decide) rfl (fun q2 => ?_) (fun q2 => ?_)
    · exfalso
      rw [q2, hz] at ht
      exact hne hF0 (by omega)
    · exact key
/-! cuts of a text (the same as in sbj.wp) -/
theorem o_8k {ds : List Int32} (q : o_n ds = true) (F N : Nat) : o_n ((ds.drop F).take N) = true :=
  List.all_eq_true.mpr fun c hc => List.all_eq_true.mp q c (List.mem_of_mem_drop (List.mem_of_mem_take hc))
theorem o_8l {ds : List Int32} (q : o_0i ds) (F N : Nat) : o_0i ((ds.drop F).take N) := fun c hc => q c (List.mem_of_mem_drop (List.mem_of_mem_take hc))
/-! substring of a text below 256, with what a HashMap's key needs (behind hash.wp, copyr.wp, cut.wp) -/
theorem c_cobH (K : o_b) (a0 : Array Value) (hw : ∀ d ∈ tables_1, d.before a0 K.Z = true) (b : Addr) (f t : Int32) (F T : Nat) (vs : List Value) (h : Heap) (hf : f.toInt = F) (ht : t.toInt = T) (hFT : F ≤ T) (hT : T ≤ vs.length) (hcap : T - F ≤ 7) (hby : o_1k vs) (B : o_g K.Z h b .byte vs) :
    o_9 K M_cob #[.ref b, .int f, .int t] [] h (o_c fun w h' xs => ∃ b' : Addr, w = .ref b' ∧ Ext h h' ∧ h.size ≤ b' ∧ b' ∈ xs ∧ Exa K.Z h' b' "[B" ∧ o_g K.Z h' b' .byte ((vs.drop F).take (T - F))) := by
  have hlv : vs.length < 2 ^ 31 := by obtain ⟨_, _, _, r⟩ := B; exact r
  have hz : (vs.length.toInt32).toInt = vs.length := o_0o _ hlv
  have hd : (t - f).toInt = ((T - F : Nat) : Int) := by rw [o_4b ht hf] <;> omega
  have hd2 : (vs.length.toInt32 - f).toInt = ((vs.length - F : Nat) : Int) := by rw [o_4b hz hf] <;> omega
  refine o_5b (M := M_cob) pn_cob rfl (by first | rfl | exact o_5 (by assumption)) (by first | rfl | exact o_5 (by assumption)) (by first | rfl | exact o_5 (by assumption)) ?_
  refine o_2 (pc' := 1) rfl d_cob_0 rfl ?_
  refine o_2 (pc' := 2) rfl d_cob_1 rfl ?_
  refine o_5p (M' := M_ckl) d_cob_2 (pc' := 5) rfl (tw_387 hw) (tw_388 hw) (tw_382 hw) (tw_389 hw) (by decide) rfl (o_6 pd_39 rfl) rfl rfl rfl rfl (c_ckl K a0 hw f t h (by omega)) (by simp) ?_
  rintro h1 xs rfl
  refine o_2 (pc' := 6) rfl d_cob_5 rfl ?_
  refine o_2 (pc' := 7) rfl d_cob_6 rfl ?_
  refine o_2x (pc' := 8) rfl d_cob_7 ?_
  refine o_1i (pc' := 9) rfl d_cob_8 (by first | exact One.u | exact One.val rfl | assumption | exact One.val (by assumption)) ?_
  refine o_2 (pc' := 10) rfl d_cob_9 rfl ?_
  refine o_4p (ad := "[B") (by decide) (pc' := 12) rfl d_cob_10 (tw_14 hw) (N := (T - F)) (cap := 7) hd hcap rfl rfl rfl ?_
  intro b2 h2 eb2 E2 X2 B2
  refine o_40 (pc' := 14) rfl d_cob_12 (by first | exact One.u | exact One.val rfl | assumption | exact One.val (by assumption)) (by first | rfl | assumption) ?_
  refine o_1 (pc' := 15) rfl d_cob_14 rfl (by first | rfl | assumption) ?_
  refine o_2 (pc' := 16) rfl d_cob_15 rfl ?_
  refine o_d (pc' := 18) rfl d_cob_16 rfl (by first | rfl | assumption) ?_
  refine o_4 (v := (0 : Int32)) (pc' := 19) rfl d_cob_18 rfl ?_
  refine o_1 (pc' := 20) rfl d_cob_19 rfl (by first | rfl | assumption) ?_
  refine o_01 (z := vs.length.toInt32) (pc' := 21) rfl d_cob_20 (B.ext E2) hz ?_
  refine o_2 (pc' := 22) rfl d_cob_21 rfl ?_
  refine o_2x (pc' := 23) rfl d_cob_22 ?_
  refine o_2 (pc' := 24) rfl d_cob_23 rfl ?_
  refine o_0n (M' := M_mmn) d_cob_24 (pc' := 27) rfl (tw_390 hw) (tw_359 hw) (tw_281 hw) (tw_360 hw) (by decide) rfl (o_6 pd_16 rfl) rfl rfl rfl rfl (c_mmn K a0 hw (vs.length.toInt32 - f) (t - f) h2) (by simp) ?_
  rintro w h3 xs3 ⟨r, rfl, hr, rfl⟩
  have hr' : r.toInt = ((T - F : Nat) : Int) := by rcases hr with ⟨z, rfl⟩ | ⟨z, rfl⟩ <;> omega
  refine o_6s (pc' := 30) rfl d_cob_27 (tw_391 hw) (tw_394 hw) (tw_392 hw) (tw_393 hw) rfl rfl rfl rfl (B.ext E2) B2 hby (o_1k.zero _) (S := F) (D := 0) (N := (T - F)) hf rfl hr' (by omega) (by simp) (by simp) ?_
  intro h4 k4 B4
  refine o_d (pc' := 32) rfl d_cob_30 rfl (by first | rfl | assumption) ?_
  refine o_i rfl rfl (by first | rfl | assumption) d_cob_32 rfl rfl ?_
  refine ⟨b2, rfl, o_f E2 k4 (by intro x hx; cases List.mem_singleton.mp hx; omega), by omega, by simp, X2.keep k4, ?_⟩
  have e : ((List.replicate (T - F) (Value.int 0)).take 0 ++ (vs.drop F).take (T - F) ++ (List.replicate (T - F) (Value.int 0)).drop (0 + (T - F))) = (vs.drop F).take (T - F) := by simp
  rw [← e]
  exact B4
theorem c_corH (K : o_b) (a0 : Array Value) (hw : ∀ d ∈ tables_1, d.before a0 K.Z = true) (b : Addr) (f t : Int32) (F T : Nat) (vs : List Value) (h : Heap) (hf : f.toInt = F) (ht : t.toInt = T) (hFT : F ≤ T) (hT : T ≤ vs.length) (hne : F = 0 → T ≠ vs.length) (hcap : T - F ≤ 7) (hby : o_1k vs) (B : o_g K.Z h b .byte vs) :
    o_9 K M_cor #[.ref b, .int f, .int t] [] h (o_c fun w h' xs => ∃ b' : Addr, w = .ref b' ∧ Ext h h' ∧ h.size ≤ b' ∧ b' ∈ xs ∧ Exa K.Z h' b' "[B" ∧ o_g K.Z h' b' .byte ((vs.drop F).take (T - F))) := by
  have hlv : vs.length < 2 ^ 31 := by obtain ⟨_, _, _, r⟩ := B; exact r
  have hz : (vs.length.toInt32).toInt = vs.length := o_0o _ hlv
  have key : o_3 K M_cor (o_c fun w h' xs => ∃ b' : Addr, w = .ref b' ∧ Ext h h' ∧ h.size ≤ b' ∧ b' ∈ xs ∧ Exa K.Z h' b' "[B" ∧ o_g K.Z h' b' .byte ((vs.drop F).take (T - F))) 10 [.val (.ref b), .val (.int f), .val (.int t)] [] [] h 0 0 := by
    refine o_1 (pc' := 11) rfl d_cor_10 rfl (by first | rfl | assumption) ?_
    refine o_2 (pc' := 12) rfl d_cor_11 rfl ?_
    refine o_2 (pc' := 13) rfl d_cor_12 rfl ?_
    refine o_13 (M' := M_cob) d_cor_13 (pc' := 16) rfl (tw_384 hw) (tw_385 hw) (tw_382 hw) (tw_386 hw) (by decide) rfl (o_6 pd_40 rfl) rfl rfl rfl rfl (c_cobH K a0 hw b f t F T vs h hf ht hFT hT hcap hby B) (by simp) ?_
    rintro w h1 xs ⟨b', rfl, E1, hb', hx, X', B'⟩
    refine o_i rfl rfl (by first | rfl | assumption) d_cor_16 rfl rfl ?_
    exact ⟨b', rfl, E1, hb', by simp [hx], X', B'⟩
  refine o_1d (M := M_cor) pn_cor rfl (by first | rfl | exact o_5 (by assumption)) (by first | rfl | exact o_5 (by assumption)) (by first | rfl | exact o_5 (by assumption)) ?_
  refine o_2 (pc' := 1) rfl d_cor_0 rfl ?_
  refine o_0k (pcT := 10) (pcF := 4) d_cor_1 (by decide) (by decide) rfl (fun q => ?_) (fun q => ?_)
  · exact key
  · have hF0 : F = 0 := by rw [q] at hf; have : (0 : Int32).toInt = 0 := rfl; omega
    refine o_2 (pc' := 5) rfl d_cor_4 rfl ?_
    refine o_1 (pc' := 6) rfl d_cor_5 rfl (by first | rfl | assumption) ?_
    refine o_01 (z := vs.length.toInt32) (pc' := 7) rfl d_cor_6 B hz ?_
    refine o_33 (pcT := 17) (pcF := 10) d_cor_7 (by decide) (by decide) rfl (fun q2 => ?_) (fun q2 => ?_)
    · exfalso
      rw [q2, hz] at ht
      exact hne hF0 (by omega)
    · exact key
theorem o_8m {cs : List Int32} {F N : Nat} (h : F + N ≤ cs.length) : ((cs.drop F).take N).length = N := by rw [List.length_take, List.length_drop]; omega
theorem d_lns_0 : decode Bn26 0 = .ok (.iload_n 2, 1) := by decide +kernel
theorem d_lns_1 : decode Bn26 1 = .ok (.ifCond .ne 6, 3) := by decide +kernel
theorem d_lns_4 : decode Bn26 4 = .ok (.ldc 151, 2) := by decide +kernel
theorem d_lns_6 : decode Bn26 6 = .ok (.areturn, 1) := by decide +kernel
theorem d_lns_7 : decode Bn26 7 = .ok (.new 1, 3) := by decide +kernel
theorem d_lns_10 : decode Bn26 10 = .ok (.dup, 1) := by decide +kernel
theorem d_lns_11 : decode Bn26 11 = .ok (.aload_n 0, 1) := by decide +kernel
theorem d_lns_12 : decode Bn26 12 = .ok (.iload_n 1, 1) := by decide +kernel
theorem d_lns_13 : decode Bn26 13 = .ok (.iload_n 1, 1) := by decide +kernel
theorem d_lns_14 : decode Bn26 14 = .ok (.iload_n 2, 1) := by decide +kernel
theorem d_lns_15 : decode Bn26 15 = .ok (.iadd, 1) := by decide +kernel
theorem d_lns_16 : decode Bn26 16 = .ok (.invokestatic 232, 3) := by decide +kernel
theorem d_lns_19 : decode Bn26 19 = .ok (.iconst 0, 1) := by decide +kernel
theorem d_lns_20 : decode Bn26 20 = .ok (.invokespecial 112, 3) := by decide +kernel
theorem d_lns_23 : decode Bn26 23 = .ok (.areturn, 1) := by decide +kernel
abbrev M_lns : o_7 := (Yn87, jdk_43_method_47_code, 3, (Option.some (FieldType.object "java/lang/String")), ({ frames := 3, cells := 2, slots := 12, locals := 75 } : Room))
theorem pn_lns : plainFor (o_7.y M_lns) = true := plainFor_of_name (by first | (simp [plainName, overriddenIn]; done) | decide +kernel)
theorem c_lnsH (K : o_b) (a0 : Array Value) (hw : ∀ d ∈ tables_1, d.before a0 K.Z = true) (hnw : K.nw = false) (hEL : EW K.Z a0 K.E) (hme : ("java/lang/StringLatin1", 151) ∈ K.E) (a : Addr) (f n : Int32) (F N : Nat) (cs seg : List Int32) (h : Heap) (hseg : seg = (cs.drop F).take N) (hf : f.toInt = F) (hn : n.toInt = N) (hFN : F + N ≤ cs.length) (hne : F = 0 → N ≠ cs.length) (hl : cs.length ≤ 7) (hcs : o_0i cs) (ql : o_n cs = true) (A : o_g K.Z h a .byte (o_p (cs.map o_04))) :
    o_9 K M_lns #[.ref a, .int f, .int n] [] h (o_c fun w h' xs => ∃ x : Addr, w = .ref x ∧ Ext h h' ∧ o_h K.Z h' x seg ∧ (0 < N → h.size ≤ x ∧ x ∈ xs ∧ o_0j K.Z h' x seg 0)) := by
  have v0 : (0 : Int32).toInt = 0 := rfl
  have hsl : seg.length = N := by rw [hseg]; exact o_8m hFN
  have hsc : o_0i seg := by rw [hseg]; exact o_8l hcs F N
  have hsq : o_n seg = true := by rw [hseg]; exact o_8k ql F N
  refine o_1d (M := M_lns) pn_lns rfl (by first | rfl | exact o_5 (by assumption)) (by first | rfl | exact o_5 (by assumption)) (by first | rfl | exact o_5 (by assumption)) ?_
  refine o_2 (pc' := 1) rfl d_lns_0 rfl ?_
  refine o_0k (pcT := 7) (pcF := 4) d_lns_1 (by decide) (by decide) rfl (fun q => ?_) (fun q => ?_)
  rotate_left 1
  · have hN0 : N = 0 := by rw [q, v0] at hn; omega
    have es : seg = [] := List.length_eq_zero_iff.mp (by omega)
    refine o_4c (n := 0) hnw (pc' := 6) rfl d_lns_4 (hw _ (List.mem_of_getElem? (i := 411) rfl)) (o_3x hw) hEL hme (by decide +kernel) (by decide +kernel) (by decide +kernel) (by decide +kernel) (by decide +kernel) (by decide +kernel) (by decide +kernel) rfl rfl rfl ?_
    intro x h1 E1 S1
    have e0 : o_3s "" = [] := by decide +kernel
    rw [e0] at S1
    refine o_i rfl rfl (by first | rfl | assumption) d_lns_6 rfl rfl ?_
    exact ⟨x, rfl, E1, by rw [es]; exact S1, fun z => absurd z (by omega)⟩
  have hfn : (f + n).toInt = ((F + N : Nat) : Int) := by rw [o_20 hf hn] <;> omega
  refine o_29 (pc' := 10) rfl d_lns_7 (o_0 hw 379 rfl) (tw_10 hw) (tw_2 hw) rfl rfl ?_
  intro x h4 ex E4 X4 D4
  have FV := D4 (Or.inr (tw_23 hw)) (ty := .array .byte) (by decide)
  have FC := D4 (Or.inr (tw_25 hw)) (ty := .byte) (by decide)
  have lx : @LT.lt Nat _ _ _ := X4.lt
  refine o_0a (pc' := 11) rfl d_lns_10 (by first | rfl | assumption) ?_
  refine o_1 (pc' := 12) rfl d_lns_11 rfl (by first | rfl | assumption) ?_
  refine o_2 (pc' := 13) rfl d_lns_12 rfl ?_
  refine o_2 (pc' := 14) rfl d_lns_13 rfl ?_
  refine o_2 (pc' := 15) rfl d_lns_14 rfl ?_
  refine o_0h (pc' := 16) rfl d_lns_15 ?_
  refine o_13 (M' := M_cor) d_lns_16 (pc' := 19) rfl (o_0 hw 380 rfl) (o_0 hw 381 rfl) (tw_382 hw) (o_0 hw 383 rfl) (by decide) rfl (o_6 pd_40 rfl) rfl rfl rfl rfl (c_corH K a0 hw a f _ F (F + N) _ h4 hf hfn (by omega) (by simp; omega) (fun z => by have z2 := hne z; simp; omega) (by omega) (o_1k.lat cs) (A.ext E4)) (by simp) ?_
  rintro w h5 xs5 ⟨b, rfl, E5, hb5, hx5, XB5, B5⟩
  have e1 : ((o_p (cs.map o_04)).drop F).take (F + N - F) = o_p (seg.map o_04) := by
    rw [show F + N - F = N by omega, hseg]; simp [o_p, List.map_drop, List.map_take]
  rw [e1] at B5
  have FH : o_38 K.Z h4 x 0 := ⟨D4 (Or.inl (tw_430 hw)) (ty := .int) (by decide), D4 (Or.inl (tw_432 hw)) (ty := .boolean) (by decide)⟩
  have nbx : b ≠ x := o_4k (by omega)
  refine o_4 (v := (0 : Int32)) (pc' := 20) rfl d_lns_19 rfl ?_
  refine o_3v (M' := M_sib) d_lns_20 (pc' := 23) rfl rfl rfl (o_0 hw 395 rfl) (tw_16 hw) (tw_2 hw) (tw_18 hw) (by decide) rfl (o_6 pd_8 rfl) rfl rfl rfl rfl (c_sibH K a0 hw x b seg h5 hsc hsq (by omega) (X4.ext E5) (FV.ext E5) (FC.ext E5) (FH.ext E5) XB5 B5 nbx) (by simp) ?_
  rintro h6 xs6 ⟨k6, S6⟩
  refine o_i rfl rfl (by first | rfl | assumption) d_lns_23 rfl rfl ?_
  exact ⟨x, rfl, o_f (o_t E4 E5) k6 (by intro z hz; cases List.mem_singleton.mp hz; omega), S6.str, fun _ => ⟨by omega, by simp, S6⟩⟩
theorem d_sub_0 : decode Bn11 0 = .ok (.aload_n 0, 1) := by decide +kernel
theorem d_sub_1 : decode Bn11 1 = .ok (.invokevirtual 505, 3) := by decide +kernel
theorem d_sub_4 : decode Bn11 4 = .ok (.istore_n 3, 1) := by decide +kernel
theorem d_sub_5 : decode Bn11 5 = .ok (.iload_n 1, 1) := by decide +kernel
theorem d_sub_6 : decode Bn11 6 = .ok (.iload_n 2, 1) := by decide +kernel
theorem d_sub_7 : decode Bn11 7 = .ok (.iload_n 3, 1) := by decide +kernel
theorem d_sub_8 : decode Bn11 8 = .ok (.invokestatic 521, 3) := by decide +kernel
theorem d_sub_11 : decode Bn11 11 = .ok (.iload_n 1, 1) := by decide +kernel
theorem d_sub_12 : decode Bn11 12 = .ok (.ifCond .ne 10, 3) := by decide +kernel
theorem d_sub_22 : decode Bn11 22 = .ok (.iload_n 2, 1) := by decide +kernel
theorem d_sub_23 : decode Bn11 23 = .ok (.iload_n 1, 1) := by decide +kernel
theorem d_sub_24 : decode Bn11 24 = .ok (.isub, 1) := by decide +kernel
theorem d_sub_25 : decode Bn11 25 = .ok (.istore 4, 2) := by decide +kernel
theorem d_sub_27 : decode Bn11 27 = .ok (.aload_n 0, 1) := by decide +kernel
theorem d_sub_28 : decode Bn11 28 = .ok (.invokevirtual 492, 3) := by decide +kernel
theorem d_sub_31 : decode Bn11 31 = .ok (.ifCond .eq 16, 3) := by decide +kernel
theorem d_sub_34 : decode Bn11 34 = .ok (.aload_n 0, 1) := by decide +kernel
theorem d_sub_35 : decode Bn11 35 = .ok (.getfield 9, 3) := by decide +kernel
theorem d_sub_38 : decode Bn11 38 = .ok (.iload_n 1, 1) := by decide +kernel
theorem d_sub_39 : decode Bn11 39 = .ok (.iload 4, 2) := by decide +kernel
theorem d_sub_41 : decode Bn11 41 = .ok (.invokestatic 685, 3) := by decide +kernel
theorem d_sub_44 : decode Bn11 44 = .ok (.goto 13, 3) := by decide +kernel
theorem d_sub_57 : decode Bn11 57 = .ok (.areturn, 1) := by decide +kernel
abbrev M_sub : o_7 := (Yn6, jdk_42_method_92_code, 5, (Option.some (FieldType.object "java/lang/String")), ({ frames := 4, cells := 2, slots := 12, locals := 95 } : Room))
theorem pn_sub : plainFor (o_7.y M_sub) = true := plainFor_of_name (by first | (simp [plainName, overriddenIn]; done) | decide +kernel)
theorem c_subH (K : o_b) (a0 : Array Value) (hw : ∀ d ∈ tables_1, d.before a0 K.Z = true) (hnw : K.nw = false) (hEL : EW K.Z a0 K.E) (hme : ("java/lang/StringLatin1", 151) ∈ K.E) (rf : Value) (hrf : rf.isRef = true) (SF : Sta K.Z K.Z.heap "jdk/internal/util/Preconditions" "SIOOBE_FORMATTER" "Ljava/util/function/BiFunction;" rf) (g : Int32) (SC : Sta K.Z K.Z.heap o_l "COMPACT_STRINGS" "Z" (.int g)) (hg : ¬ g = 0) (x : Addr) (f e : Int32) (F E : Nat) (cs : List Int32) (h : Heap) (hf : f.toInt = F) (he : e.toInt = E) (hF0 : 0 < F) (hFE : F ≤ E) (hE : E ≤ cs.length) (hl : cs.length ≤ 7) (ql : o_n cs = true) (S : o_h K.Z h x cs) :
    o_9 K M_sub #[.ref x, .int f, .int e] [] h (o_c fun w h' xs => ∃ z : Addr, w = .ref z ∧ Ext h h' ∧ o_h K.Z h' z ((cs.drop F).take (E - F)) ∧ (0 < E - F → h.size ≤ z ∧ z ∈ xs ∧ o_0j K.Z h' z ((cs.drop F).take (E - F)) 0)) := by
  have v0 : (0 : Int32).toInt = 0 := rfl
  have S' := S
  obtain ⟨E0, hcs, -, b, FV, FC, B⟩ := S
  rw [(o_0e ql).1] at B
  have hn : (cs.length.toInt32).toInt = cs.length := o_0o _ (by omega)
  have hef : (e - f).toInt = ((E - F : Nat) : Int) := by rw [o_4b he hf] <;> omega
  refine o_5b (M := M_sub) pn_sub rfl (by first | rfl | exact o_5 (by assumption)) (by first | rfl | exact o_5 (by assumption)) (by first | rfl | exact o_5 (by assumption)) ?_
  refine o_1 (pc' := 1) rfl d_sub_0 rfl (by first | rfl | assumption) ?_
  refine o_0p (M' := M_sl) d_sub_1 (pc' := 4) rfl (tw_321 hw) (tw_322 hw) (tw_324 hw) (tw_323 hw) (tw_2 hw) (tw_325 hw) (by decide) rfl (o_6 pd_13 rfl) rfl rfl rfl rfl E0 (c_sl K a0 hw g SC hg x cs h S') (by simp) ?_
  rintro w h1 xs1 ⟨rfl, rfl⟩
  refine o_1i (pc' := 5) rfl d_sub_4 (by first | exact One.u | exact One.val rfl | assumption | exact One.val (by assumption)) ?_
  refine o_2 (pc' := 6) rfl d_sub_5 rfl ?_
  refine o_2 (pc' := 7) rfl d_sub_6 rfl ?_
  refine o_2 (pc' := 8) rfl d_sub_7 rfl ?_
  refine o_7o (M' := M_sbe) d_sub_8 (pc' := 11) rfl (o_0 hw 369 rfl) (o_0 hw 370 rfl) (tw_2 hw) (o_0 hw 371 rfl) (by decide) rfl (o_6 pd_41 rfl) rfl rfl rfl rfl (c_sbe K a0 hw rf hrf SF f e _ _ (by omega) (by omega) (by omega)) (by simp) ?_
  rintro h2 xs2 rfl
  refine o_2 (pc' := 12) rfl d_sub_11 rfl ?_
  refine o_0k (pcT := 22) (pcF := 15) d_sub_12 (by decide) (by decide) rfl (fun q => ?_) (fun q => ?_)
  rotate_left 1
  · exfalso
    rw [q, v0] at hf
    omega
  refine o_2 (pc' := 23) rfl d_sub_22 rfl ?_
  refine o_2 (pc' := 24) rfl d_sub_23 rfl ?_
  refine o_2x (pc' := 25) rfl d_sub_24 ?_
  refine o_1j (pc' := 27) rfl d_sub_25 (by first | exact One.u | exact One.val rfl | assumption | exact One.val (by assumption)) ?_
  refine o_1 (pc' := 28) rfl d_sub_27 rfl (by first | rfl | assumption) ?_
  refine o_0p (M' := M_isl) d_sub_28 (pc' := 31) rfl (tw_346 hw) (tw_347 hw) (tw_349 hw) (tw_348 hw) (tw_2 hw) (tw_350 hw) (by decide) rfl (o_6 pd_11 rfl) rfl rfl rfl rfl E0 (c_isl K a0 hw g SC hg x cs _ S') (by simp) ?_
  rintro w h3 xs3 ⟨rfl, rfl⟩
  rw [ql]
  refine o_k (pcT := 47) (pcF := 34) d_sub_31 (by decide) (by decide) rfl (fun q1 => ?_) (fun q1 => ?_)
  · exact absurd q1 (by decide)
  refine o_1 (pc' := 35) rfl d_sub_34 rfl (by first | rfl | assumption) ?_
  refine o_q (pc' := 38) rfl d_sub_35 (tw_22 hw) Via.refl FV ?_
  refine o_2 (pc' := 39) rfl d_sub_38 rfl ?_
  refine o_a (pc' := 41) rfl d_sub_39 rfl ?_
  refine o_13 (M' := M_lns) d_sub_41 (pc' := 44) rfl (o_0 hw 376 rfl) (o_0 hw 377 rfl) (tw_7 hw) (o_0 hw 378 rfl) (by decide) rfl (o_6 pd_42 rfl) rfl rfl rfl rfl (c_lnsH K a0 hw hnw hEL hme b f (e - f) F (E - F) cs _ _ rfl hf hef (by omega) (fun z => absurd z (by omega)) hl hcs ql B) (by simp) ?_
  rintro w h4 xs4 ⟨z, rfl, E4, S4, T4⟩
  refine o_o (pc' := 57) d_sub_44 (by decide) (by decide) ?_
  refine o_i rfl rfl (by first | rfl | assumption) d_sub_57 rfl rfl ?_
  exact ⟨z, rfl, E4, S4, fun q => ⟨(T4 q).1, by simp [(T4 q).2.1], (T4 q).2.2⟩⟩
theorem d_sb1_0 : decode Bn73 0 = .ok (.aload_n 0, 1) := by decide +kernel
theorem d_sb1_1 : decode Bn73 1 = .ok (.iload_n 1, 1) := by decide +kernel
theorem d_sb1_2 : decode Bn73 2 = .ok (.aload_n 0, 1) := by decide +kernel
theorem d_sb1_3 : decode Bn73 3 = .ok (.invokevirtual 505, 3) := by decide +kernel
theorem d_sb1_6 : decode Bn73 6 = .ok (.invokevirtual 681, 3) := by decide +kernel
theorem d_sb1_9 : decode Bn73 9 = .ok (.areturn, 1) := by decide +kernel
abbrev M_sb1 : o_7 := (Yn88, jdk_42_method_91_code, 2, (Option.some (FieldType.object "java/lang/String")), ({ frames := 5, cells := 2, slots := 12, locals := 112 } : Room))
theorem pn_sb1 : plainFor (o_7.y M_sb1) = true := plainFor_of_name (by first | (simp [plainName, overriddenIn]; done) | decide +kernel)
theorem c_sb1 (K : o_b) (a0 : Array Value) (hw : ∀ d ∈ tables_1, d.before a0 K.Z = true) (hnw : K.nw = false) (hEL : EW K.Z a0 K.E) (hme : ("java/lang/StringLatin1", 151) ∈ K.E) (rf : Value) (hrf : rf.isRef = true) (SF : Sta K.Z K.Z.heap "jdk/internal/util/Preconditions" "SIOOBE_FORMATTER" "Ljava/util/function/BiFunction;" rf) (g : Int32) (SC : Sta K.Z K.Z.heap o_l "COMPACT_STRINGS" "Z" (.int g)) (hg : ¬ g = 0) (x : Addr) (f : Int32) (F : Nat) (cs : List Int32) (h : Heap) (hf : f.toInt = F) (hF0 : 0 < F) (hF : F ≤ cs.length) (hl : cs.length ≤ 7) (ql : o_n cs = true) (S : o_h K.Z h x cs) :
    o_9 K M_sb1 #[.ref x, .int f] [] h (o_c fun w h' _ => ∃ z : Addr, w = .ref z ∧ Ext h h' ∧ o_h K.Z h' z (cs.drop F) ∧ (0 < cs.length - F → h.size ≤ z)) := by
  have hn : (cs.length.toInt32).toInt = cs.length := o_0o _ (by omega)
  refine o_08 (M := M_sb1) pn_sb1 rfl (by first | rfl | exact o_5 (by assumption)) (by first | rfl | exact o_5 (by assumption)) ?_
  refine o_1 (pc' := 1) rfl d_sb1_0 rfl (by first | rfl | assumption) ?_
  refine o_2 (pc' := 2) rfl d_sb1_1 rfl ?_
  refine o_1 (pc' := 3) rfl d_sb1_2 rfl (by first | rfl | assumption) ?_
  refine o_0p (M' := M_sl) d_sb1_3 (pc' := 6) rfl (tw_321 hw) (tw_322 hw) (tw_324 hw) (tw_323 hw) (tw_2 hw) (tw_325 hw) (by decide) rfl (o_6 pd_13 rfl) rfl rfl rfl rfl S.1 (c_sl K a0 hw g SC hg x cs h S) (by simp) ?_
  rintro w h1 xs1 ⟨rfl, rfl⟩
  refine o_2r (M' := M_sub) d_sb1_6 (pc' := 9) rfl (o_0 hw 410 rfl) (tw_365 hw) (tw_367 hw) (tw_366 hw) (tw_2 hw) (tw_368 hw) (by decide) rfl (o_6 pd_43 rfl) rfl rfl rfl rfl S.1 (c_subH K a0 hw hnw hEL hme rf hrf SF g SC hg x f _ F cs.length cs _ hf hn hF0 hF (Nat.le_refl _) hl ql S) (by simp) ?_
  rintro w h2 xs2 ⟨z, rfl, E2, S2, q2⟩
  have e : (cs.drop F).take (cs.length - F) = cs.drop F := List.take_of_length_le (by rw [List.length_drop]; exact Nat.le_refl _)
  rw [e] at S2
  refine o_i rfl rfl (by first | rfl | assumption) d_sb1_9 rfl rfl ?_
  exact ⟨z, rfl, E2, S2, fun y => (q2 y).1⟩
/-! Arguments: its constructor, option (behind alist.wp, hmap.wp, colls.wp) -/
abbrev o_39 : String := "com/example/hand_balancer/handbalancer/cli/Arguments"
def o_22 (Z : State) (h : Heap) (a ops m : Addr) : Prop := Exa Z h a o_39 ∧ Fld Z h a o_39 "operands" "Ljava/util/List;" (.ref ops) ∧ Fld Z h a o_39 "options" "Ljava/util/Map;" (.ref m)
theorem o_22.ext {Z : State} {h h' : Heap} {a ops m : Addr} (F : o_22 Z h a ops m) (E : Ext h h') : o_22 Z h' a ops m := ⟨F.1.ext E, F.2.1.ext E, F.2.2.ext E⟩
theorem o_22.keep {Z : State} {h h' : Heap} {a ops m : Addr} {ws : List Addr} (F : o_22 Z h a ops m) (k : Keep h h' ws) (q : a ∉ ws) : o_22 Z h' a ops m := ⟨F.1.keep k, F.2.1.keep k q, F.2.2.keep k q⟩
theorem d_arg_0 : decode Bn30 0 = .ok (.aload_n 0, 1) := by decide +kernel
theorem d_arg_1 : decode Bn30 1 = .ok (.invokespecial 1, 3) := by decide +kernel
theorem d_arg_4 : decode Bn30 4 = .ok (.aload_n 0, 1) := by decide +kernel
theorem d_arg_5 : decode Bn30 5 = .ok (.new 7, 3) := by decide +kernel
theorem d_arg_8 : decode Bn30 8 = .ok (.dup, 1) := by decide +kernel
theorem d_arg_9 : decode Bn30 9 = .ok (.invokespecial 9, 3) := by decide +kernel
theorem d_arg_12 : decode Bn30 12 = .ok (.putfield 10, 3) := by decide +kernel
theorem d_arg_15 : decode Bn30 15 = .ok (.aload_n 0, 1) := by decide +kernel
theorem d_arg_16 : decode Bn30 16 = .ok (.new 16, 3) := by decide +kernel
theorem d_arg_19 : decode Bn30 19 = .ok (.dup, 1) := by decide +kernel
theorem d_arg_20 : decode Bn30 20 = .ok (.invokespecial 18, 3) := by decide +kernel
theorem d_arg_23 : decode Bn30 23 = .ok (.putfield 19, 3) := by decide +kernel
theorem d_arg_26 : decode Bn30 26 = .ok (.return_, 1) := by decide +kernel
abbrev M_arg : o_7 := (Yn89, prog_1_method_1_code, 1, (Option.none : Option FieldType), ({ frames := 4, cells := 2, slots := 11, locals := 50 } : Room))
theorem pn_arg : plainFor (o_7.y M_arg) = true := plainFor_of_name (by first | (simp [plainName, overriddenIn]; done) | decide +kernel)
theorem c_arg (K : o_b) (a0 : Array Value) (hw : ∀ d ∈ tables_1, d.before a0 K.Z = true) (D : Addr) (SD : Sta K.Z K.Z.heap o_0r "DEFAULTCAPACITY_EMPTY_ELEMENTDATA" o_11 (.ref D)) (a : Addr) (h : Heap) (E : Exa K.Z h a o_39) (F1 : Fld K.Z h a o_39 "operands" "Ljava/util/List;" .null) (F2 : Fld K.Z h a o_39 "options" "Ljava/util/Map;" .null) :
    o_9 K M_arg #[.ref a] [a] h (o_09 fun h' xs => Keep h h' [a] ∧ ∃ ops m : Addr, ops ∈ xs ∧ m ∈ xs ∧ h.size ≤ ops ∧ h.size ≤ m ∧ o_22 K.Z h' a ops m ∧ o_0s K.Z h' D ops D [] ∧ o_0x K.Z h' m 0 none (List.replicate 16 .null)) := by
  have L1 : Laid K.Z a0 o_39 o_39 "operands" "Ljava/util/List;" := Or.inr (tw_139 hw)
  have L2 : Laid K.Z a0 o_39 o_39 "options" "Ljava/util/Map;" := Or.inr (tw_157 hw)
  have s12 := slot_ne L1 L2 (by decide) (t := .object "java/util/List") (t' := .object "java/util/Map") (by decide) (by decide)
  have la : @LT.lt Nat _ _ _ := E.lt
  refine o_x (M := M_arg) pn_arg rfl (by first | rfl | exact o_5 (by assumption)) ?_
  refine o_1 (pc' := 1) rfl d_arg_0 rfl (by first | rfl | assumption) ?_
  refine o_2w (pc' := 4) rfl d_arg_1 (o_0 hw 135 rfl) (tw_20 hw) (tw_21 hw) rfl rfl rfl ?_
  refine o_1 (pc' := 5) rfl d_arg_4 rfl (by first | rfl | assumption) ?_
  refine o_29 (pc' := 8) rfl d_arg_5 (o_0 hw 136 rfl) (tw_61 hw) (tw_62 hw) rfl rfl ?_
  intro ops h1 eo E1 X1 D1
  have noa : ops ≠ a := by show @Ne Nat ops a; omega
  refine o_0a (pc' := 9) rfl d_arg_8 (by first | rfl | assumption) ?_
  refine o_10 (M' := M_ai0) d_arg_9 (pc' := 12) rfl rfl rfl (o_0 hw 137 rfl) (tw_64 hw) (tw_62 hw) (tw_65 hw) (by decide) rfl (o_6 pd_14 rfl) rfl rfl rfl rfl (c_ai0 K a0 hw D SD ops h1 X1 (D1 (Or.inl (tw_80 hw)) (ty := .int) (by decide)) (D1 (Or.inl (tw_168 hw)) (ty := .int) (by decide)) (D1 (Or.inl (tw_83 hw)) (ty := .array (.object "java/lang/Object")) (by decide))) (by simp) ?_
  rintro h2 xs2 ⟨k2, L2'⟩
  have na : a ∉ [ops] := ninS (Ne.symm noa) nin0
  refine o_06 (pc' := 15) rfl d_arg_12 (tw_138 hw) Via.refl (Or.inr ⟨(tw_139 hw), rfl, rfl⟩) (tw_131 hw) (ty := (.object "java/util/List")) (by decide) rfl rfl ((F1.ext E1).keep k2 na) ((E.ext E1).keep k2) (by simp) ?_
  intro h3 W3
  have L3 := L2'.keep (Keep.of_wr W3) (ninS noa nin0) (fun q => absurd rfl q)
  have A3 := ((E.ext E1).keep k2).wr W3
  have K3 : Keep h h3 [a] := ((((Keep.refl h [a]).ext E1).trans k2 (fun z hz => Or.inr (by cases List.mem_singleton.mp hz; omega))).wr W3 (Or.inl (List.mem_singleton.mpr rfl)))
  have l3 : @LT.lt Nat _ _ _ := A3.lt
  refine o_1 (pc' := 16) rfl d_arg_15 rfl (by first | rfl | assumption) ?_
  refine o_29 (pc' := 19) rfl d_arg_16 (o_0 hw 140 rfl) (tw_141 hw) (tw_142 hw) rfl rfl ?_
  intro m h4 em E4 X4 D4
  have nma : m ≠ a := by show @Ne Nat m a; omega
  have hle3 := K3.1
  refine o_0a (pc' := 20) rfl d_arg_19 (by first | rfl | assumption) ?_
  refine o_10 (M' := M_hin) d_arg_20 (pc' := 23) rfl rfl rfl (o_0 hw 143 rfl) (o_0 hw 144 rfl) (tw_142 hw) (o_0 hw 145 rfl) (by decide) rfl (o_6 pd_14 rfl) rfl rfl rfl rfl (c_hin K a0 hw m h4 X4 (D4 (Or.inr (tw_155 hw)) (ty := .float) (by decide)) (D4 (Or.inl (tw_479 hw)) (ty := .int) (by decide)) (D4 (Or.inl (tw_481 hw)) (ty := .int) (by decide)) (D4 (Or.inl (tw_241 hw)) (ty := .array (.object "java/util/HashMap$Node")) (by decide)) (D4 (Or.inl (tw_455 hw)) (ty := .int) (by decide))) (by simp) ?_
  rintro h5 xs5 ⟨k5, M5⟩
  have nam : a ∉ [m] := ninS (Ne.symm nma) nin0
  have nom : ops ≠ m := ne_exa ((L3.1.ext E4)) X4 (by decide)
  have G2 := ((((F2.ext E1).keep k2 na).other W3 (Or.inr (Ne.symm s12))).ext E4).keep k5 nam
  have G1 := (((((F1.ext E1).keep k2 na).same W3).ext E4).keep k5 nam)
  refine o_06 (pc' := 26) rfl d_arg_23 (tw_156 hw) Via.refl (Or.inr ⟨(tw_157 hw), rfl, rfl⟩) (tw_131 hw) (ty := (.object "java/util/Map")) (by decide) rfl rfl G2 ((A3.ext E4).keep k5) (by simp) ?_
  intro h6 W6
  refine o_0b rfl d_arg_26 rfl rfl ?_
  refine ⟨((((K3.ext E4).trans k5 (fun z hz => Or.inr (by cases List.mem_singleton.mp hz; show @LE.le Nat _ h.size m; omega))).wr W6 (Or.inl (List.mem_singleton.mpr rfl)))), ops, m, by simp, by simp, by omega, by omega, ⟨((A3.ext E4).keep k5).wr W6, G1.other W6 (Or.inr s12), G2.same W6⟩, ((L3.ext E4).keep k5 (ninS nom nin0) (fun q => absurd rfl q)).keep (Keep.of_wr W6) (ninS noa nin0) (fun q => absurd rfl q), M5.keep (Keep.of_wr W6) (ninS nma nin0) (fun t q => nomatch q)⟩
section CastNull
variable {K : o_b} {M : o_7} {Q : o_0g} {pc pc' : Nat} {Ls : List Slot} {St : List Value} {sf : List Addr} {h : Heap} {cs sl : Nat}
theorem o_5s {index : Nat} (hp : pc + 3 = pc') (hd : decode M.b pc = .ok (.checkcast index, 3)) (k : o_3 K M Q pc' Ls (.null :: St) sf h cs sl) : o_3 K M Q pc Ls (.null :: St) sf h cs sl :=
  o_e k fun p e s m args below meth c T locs cs' sl' B X eT t q => X.checkcastNull B.1 (g := mkF m pc Ls.toArray (.null :: St)) rfl rfl (hb B.2.1 hd) t (by subst hp; exact q)
end CastNull
theorem d_opt_0 : decode Bn52 0 = .ok (.aload_n 0, 1) := by decide +kernel
theorem d_opt_1 : decode Bn52 1 = .ok (.getfield 19, 3) := by decide +kernel
theorem d_opt_4 : decode Bn52 4 = .ok (.aload_n 1, 1) := by decide +kernel
theorem d_opt_5 : decode Bn52 5 = .ok (.invokeinterface 95 2, 5) := by decide +kernel
theorem d_opt_10 : decode Bn52 10 = .ok (.checkcast 34, 3) := by decide +kernel
theorem d_opt_13 : decode Bn52 13 = .ok (.invokestatic 98, 3) := by decide +kernel
theorem d_opt_16 : decode Bn52 16 = .ok (.areturn, 1) := by decide +kernel
abbrev M_opt : o_7 := (Yn1, prog_1_method_5_code, 2, (Option.some (FieldType.object "java/util/Optional")), ({ frames := 7, cells := 1, slots := 1, locals := 125 } : Room))
theorem pn_opt : plainFor (o_7.y M_opt) = true := plainFor_of_name (by first | (simp [plainName, overriddenIn]; done) | decide +kernel)
theorem c_opt0 (K : o_b) (a0 : Array Value) (hw : ∀ d ∈ tables_1, d.before a0 K.Z = true) (e : Addr) (SE : Sta K.Z K.Z.heap o_1q "EMPTY" "Ljava/util/Optional;" (.ref e)) (g : Int32) (SC : Sta K.Z K.Z.heap o_l "COMPACT_STRINGS" "Z" (.int g)) (hg : ¬ g = 0) (a ops m x : Addr) (s : Int32) (tb : Option Addr) (vs : List Value) (I : Nat) (cs : List Int32) (n0 : Int32) (h : Heap) (G : o_22 K.Z h a ops m) (F : o_0x K.Z h m s tb vs) (S : o_0j K.Z h x cs n0) (hn0 : n0 = 0 ∨ n0 = o_m cs) (h0 : ¬ o_m cs = 0) (hx : o_m cs ^^^ XT.ushr (o_m cs) 16 = o_m cs) (LH : ∀ (b : Addr) (h : Heap), Exa K.Z h b "[B" → o_g K.Z h b .byte (o_p (cs.map o_04)) → o_9 K M_lhc #[.ref b] [] h (o_c fun w h' _ => w = .int (o_m cs) ∧ h' = h)) (hI : (((16 : Int32) - 1) &&& o_m cs).toInt = I) (ho : vs[I]? = some .null) :
    o_9 K M_opt #[.ref a, .ref x] [x] h (o_c fun w h' _ => w = .ref e ∧ (h' = h ∨ Wr h h' x (RoadKit.slotOf K.Z o_l "hash" "I") (.int (o_m cs))) ∧ ∃ n1, (n1 = 0 ∨ n1 = o_m cs) ∧ o_0j K.Z h' x cs n1) := by
  refine o_08 (M := M_opt) pn_opt rfl (by first | rfl | exact o_5 (by assumption)) (by first | rfl | exact o_5 (by assumption)) ?_
  refine o_1 (pc' := 1) rfl d_opt_0 rfl (by first | rfl | assumption) ?_
  refine o_q (pc' := 4) rfl d_opt_1 (tw_156 hw) Via.refl G.2.2 ?_
  refine o_1 (pc' := 5) rfl d_opt_4 rfl (by first | rfl | assumption) ?_
  cases tb with
  | none =>
    refine o_0u (M' := M_hgt) d_opt_5 (pc' := 10) rfl (tw_226 hw) (tw_227 hw) (tw_228 hw) rfl (tw_229 hw) (tw_230 hw) (tw_231 hw) (tw_232 hw) (tw_233 hw) (tw_142 hw) (tw_234 hw) (by decide) rfl (o_6 pd_29 rfl) rfl rfl rfl rfl F.1 (c_hg0 K a0 hw m x s vs h F) (by simp) ?_
    rintro w h1 xs1 ⟨rfl, rfl⟩
    refine o_5s (pc' := 13) rfl d_opt_10 ?_
    refine o_03 (M' := M_opn) d_opt_13 (pc' := 16) rfl (tw_242 hw) (tw_243 hw) (tw_244 hw) (tw_245 hw) (by decide) rfl (o_6 pd_44 rfl) rfl rfl rfl rfl (c_opn0 K a0 hw e SE _) (by simp) ?_
    rintro w h2 xs2 ⟨rfl, rfl⟩
    refine o_i rfl rfl (by first | rfl | assumption) d_opt_16 rfl rfl ?_
    exact ⟨rfl, Or.inl rfl, n0, hn0, S⟩
  | some t =>
    refine o_0u (M' := M_hgt) d_opt_5 (pc' := 10) rfl (tw_226 hw) (tw_227 hw) (tw_228 hw) rfl (tw_229 hw) (tw_230 hw) (tw_231 hw) (tw_232 hw) (tw_233 hw) (tw_142 hw) (tw_234 hw) (by decide) rfl (o_6 pd_29 rfl) rfl rfl rfl rfl F.1 (c_hg1 K a0 hw g SC hg m x t s vs I cs n0 h F S hn0 h0 hx LH hI none ho) (by simp) ?_
    rintro w h1 xs1 ⟨rfl, q1, S1⟩
    refine o_5s (pc' := 13) rfl d_opt_10 ?_
    refine o_03 (M' := M_opn) d_opt_13 (pc' := 16) rfl (tw_242 hw) (tw_243 hw) (tw_244 hw) (tw_245 hw) (by decide) rfl (o_6 pd_44 rfl) rfl rfl rfl rfl (c_opn0 K a0 hw e SE _) (by simp) ?_
    rintro w h2 xs2 ⟨rfl, rfl⟩
    refine o_i rfl rfl (by first | rfl | assumption) d_opt_16 rfl rfl ?_
    exact ⟨rfl, q1, _, Or.inr rfl, S1⟩
theorem c_opt1 (K : o_b) (a0 : Array Value) (hw : ∀ d ∈ tables_1, d.before a0 K.Z = true) (g : Int32) (SC : Sta K.Z K.Z.heap o_l "COMPACT_STRINGS" "Z" (.int g)) (hg : ¬ g = 0) (a ops m x t n k v : Addr) (s : Int32) (vs : List Value) (I : Nat) (cs ds : List Int32) (n0 : Int32) (h : Heap) (G : o_22 K.Z h a ops m) (F : o_0x K.Z h m s (some t) vs) (S : o_0j K.Z h x cs n0) (hn0 : n0 = 0 ∨ n0 = o_m cs) (h0 : ¬ o_m cs = 0) (hx : o_m cs ^^^ XT.ushr (o_m cs) 16 = o_m cs) (LH : ∀ (b : Addr) (h : Heap), Exa K.Z h b "[B" → o_g K.Z h b .byte (o_p (cs.map o_04)) → o_9 K M_lhc #[.ref b] [] h (o_c fun w h' _ => w = .int (o_m cs) ∧ h' = h)) (hI : (((16 : Int32) - 1) &&& o_m cs).toInt = I) (ho : vs[I]? = some (.ref n) ∧ o_21 K.Z h n (o_m cs) k v ∧ o_h K.Z h k cs) (V : o_h K.Z h v ds) :
    o_9 K M_opt #[.ref a, .ref x] [x] h (o_c fun w h' _ => ∃ (z : Addr) (h1 : Heap), w = .ref z ∧ (h1 = h ∨ Wr h h1 x (RoadKit.slotOf K.Z o_l "hash" "I") (.int (o_m cs))) ∧ Ext h1 h' ∧ Exa K.Z h' z o_1q ∧ Fld K.Z h' z o_1q "value" o_0f (.ref v) ∧ o_h K.Z h' v ds) := by
  refine o_08 (M := M_opt) pn_opt rfl (by first | rfl | exact o_5 (by assumption)) (by first | rfl | exact o_5 (by assumption)) ?_
  refine o_1 (pc' := 1) rfl d_opt_0 rfl (by first | rfl | assumption) ?_
  refine o_q (pc' := 4) rfl d_opt_1 (tw_156 hw) Via.refl G.2.2 ?_
  refine o_1 (pc' := 5) rfl d_opt_4 rfl (by first | rfl | assumption) ?_
  refine o_0u (M' := M_hgt) d_opt_5 (pc' := 10) rfl (tw_226 hw) (tw_227 hw) (tw_228 hw) rfl (tw_229 hw) (tw_230 hw) (tw_231 hw) (tw_232 hw) (tw_233 hw) (tw_142 hw) (tw_234 hw) (by decide) rfl (o_6 pd_29 rfl) rfl rfl rfl rfl F.1 (c_hg1 K a0 hw g SC hg m x t s vs I cs n0 h F S hn0 h0 hx LH hI (some (n, k, v)) ho) (by simp) ?_
  rintro w h1 xs1 ⟨rfl, q1, S1⟩
  have V1 : o_h K.Z h1 v ds := q1.elim (fun e => by rw [e]; exact V) (fun W => V.hw hw S.2.2.2.1 W)
  refine o_24 (pc' := 13) rfl d_opt_10 (tw_309 hw) (Ins.self V1.1) ?_
  refine o_03 (M' := M_opn) d_opt_13 (pc' := 16) rfl (tw_242 hw) (tw_243 hw) (tw_244 hw) (tw_245 hw) (by decide) rfl (o_6 pd_44 rfl) rfl rfl rfl rfl (c_opn1 K a0 hw v h1) (by simp) ?_
  rintro w h2 xs2 ⟨z, rfl, E2, X2, F2⟩
  refine o_i rfl rfl (by first | rfl | assumption) d_opt_16 rfl rfl ?_
  exact ⟨z, h1, rfl, q1, E2, X2, F2, V1.ext E2⟩
/-! Arguments.parse over a script of items (behind args.wp, starts.wp, latsub.wp, index.wp) -/
/-- the two names: yz (true), x (false) -/
def o_r (b : Bool) : List Int32 := if b then [121, 122] else [120]
def o_26 (b : Bool) : Nat := if b then 1 else 8
theorem o_5k (b : Bool) : o_0i (o_r b) ∧ o_n (o_r b) = true ∧ (¬ o_m (o_r b) = 0) ∧ o_m (o_r b) ^^^ XT.ushr (o_m (o_r b)) 16 = o_m (o_r b) ∧ (((16 : Int32) - 1) &&& o_m (o_r b)).toInt = o_26 b := by
  cases b
  · refine ⟨fun c hc => ?_, by decide, by decide, by decide, by decide⟩
    cases List.mem_singleton.mp hc; decide
  · refine ⟨fun c hc => ?_, by decide, by decide, by decide, by decide⟩
    simp only [o_r, List.mem_cons, List.not_mem_nil, or_false, if_true] at hc
    rcases hc with rfl | rfl <;> decide
theorem c_LH (K : o_b) (a0 : Array Value) (hw : ∀ d ∈ tables_1, d.before a0 K.Z = true) (b : Bool) : ∀ (y : Addr) (h : Heap), Exa K.Z h y "[B" → o_g K.Z h y .byte (o_p ((o_r b).map o_04)) → o_9 K M_lhc #[.ref y] [] h (o_c fun w h' _ => w = .int (o_m (o_r b)) ∧ h' = h) := by
  intro y h X B
  have f := o_5k b
  cases b
  · exact c_lhc1 K a0 hw y 120 h f.1 f.2.1 B
  · exact c_lhc2 K a0 hw y 121 122 h f.1 f.2.1 B X
/-- an argument: its address, none or its flag's name and (where it stands apart) its value's address, and the text -/
abbrev o_1e : Type := Addr × Option (Bool × Option Addr) × List Int32
def o_3q : o_1e → List Value
  | (x, none, _) => [.ref x]
  | (x, some (_, none), _) => [.ref x]
  | (x, some (_, some v), _) => [.ref x, .ref v]
def o_4y (Z : State) (h : Heap) : o_1e → Prop
  | (x, none, cs) => o_h Z h x cs ∧ o_n cs = true ∧ cs.length ≤ 2 ∧ ¬ cs.take 2 = [45, 45]
  | (x, some (b, none), cs) => o_h Z h x ([45, 45] ++ o_r b ++ [61] ++ cs) ∧ o_n cs = true ∧ cs.length ≤ 2
  | (x, some (b, some v), cs) => o_h Z h x ([45, 45] ++ o_r b) ∧ o_h Z h v cs
def o_1o : o_1e → Option Bool := fun i => i.2.1.map Prod.fst
def o_53 : o_1e → List Int32 := fun i => i.2.2
def o_4f : o_1e → List Value
  | (x, none, _) => [.ref x]
  | _ => []
abbrev o_0z : Type := Option (Addr × Addr × Addr × List Int32)
/-- an entry of the map: its node, its key, its value's address and text -/
def o_17 (Z : State) (h : Heap) (b : Bool) (vs : List Value) : o_0z → Prop
  | none => vs[o_26 b]? = some .null
  | some (n, k, v, ds) => vs[o_26 b]? = some (.ref n) ∧ o_21 Z h n (o_m (o_r b)) k v ∧ o_h Z h k (o_r b) ∧ o_h Z h v ds
/-- what parse holds while it runs -/
def o_0c (Z : State) (h0 h : Heap) (sf : List Addr) (D a ops m e : Addr) (os : List Value) (s : Int32) (tb : Option Addr) (vs : List Value) (ent : Bool → o_0z) : Prop := (Ext h0 h) ∧ (o_22 Z h a ops m) ∧ (o_0s Z h D ops e os) ∧ (o_0x Z h m s tb vs) ∧ (o_17 Z h true vs (ent true)) ∧ (o_17 Z h false vs (ent false)) ∧ (h0.size ≤ a) ∧ (h0.size ≤ ops) ∧ (h0.size ≤ m) ∧ (e ≠ D → h0.size ≤ e) ∧ (∀ t, tb = some t → h0.size ≤ t) ∧ (ops ∈ sf) ∧ (m ∈ sf) ∧ (e ≠ D → e ∈ sf) ∧ (∀ t, tb = some t → t ∈ sf)
section PsFields
variable {Z : State} {h0 h : Heap} {sf : List Addr} {D a ops m e : Addr} {os : List Value} {s : Int32} {tb : Option Addr} {vs : List Value} {ent : Bool → o_0z}
theorem o_0c.ex (P : o_0c Z h0 h sf D a ops m e os s tb vs ent) : Ext h0 h := P.1
theorem o_0c.arg (P : o_0c Z h0 h sf D a ops m e os s tb vs ent) : o_22 Z h a ops m := P.2.1
theorem o_0c.lst (P : o_0c Z h0 h sf D a ops m e os s tb vs ent) : o_0s Z h D ops e os := P.2.2.1
theorem o_0c.map (P : o_0c Z h0 h sf D a ops m e os s tb vs ent) : o_0x Z h m s tb vs := P.2.2.2.1
theorem o_0c.e0 (P : o_0c Z h0 h sf D a ops m e os s tb vs ent) : o_17 Z h true vs (ent true) := P.2.2.2.2.1
theorem o_0c.e1 (P : o_0c Z h0 h sf D a ops m e os s tb vs ent) : o_17 Z h false vs (ent false) := P.2.2.2.2.2.1
theorem o_0c.na (P : o_0c Z h0 h sf D a ops m e os s tb vs ent) : h0.size ≤ a := P.2.2.2.2.2.2.1
theorem o_0c.no (P : o_0c Z h0 h sf D a ops m e os s tb vs ent) : h0.size ≤ ops := P.2.2.2.2.2.2.2.1
theorem o_0c.nm (P : o_0c Z h0 h sf D a ops m e os s tb vs ent) : h0.size ≤ m := P.2.2.2.2.2.2.2.2.1
theorem o_0c.ne (P : o_0c Z h0 h sf D a ops m e os s tb vs ent) : e ≠ D → h0.size ≤ e := P.2.2.2.2.2.2.2.2.2.1
theorem o_0c.nt (P : o_0c Z h0 h sf D a ops m e os s tb vs ent) : ∀ t, tb = some t → h0.size ≤ t := P.2.2.2.2.2.2.2.2.2.2.1
theorem o_0c.so (P : o_0c Z h0 h sf D a ops m e os s tb vs ent) : ops ∈ sf := P.2.2.2.2.2.2.2.2.2.2.2.1
theorem o_0c.sm (P : o_0c Z h0 h sf D a ops m e os s tb vs ent) : m ∈ sf := P.2.2.2.2.2.2.2.2.2.2.2.2.1
theorem o_0c.se (P : o_0c Z h0 h sf D a ops m e os s tb vs ent) : e ≠ D → e ∈ sf := P.2.2.2.2.2.2.2.2.2.2.2.2.2.1
theorem o_0c.st (P : o_0c Z h0 h sf D a ops m e os s tb vs ent) : ∀ t, tb = some t → t ∈ sf := P.2.2.2.2.2.2.2.2.2.2.2.2.2.2
end PsFields
def o_0t (its : List o_1e) (b : Bool) : Nat := (its.filter fun i => decide (o_1o i = some b)).length
def o_3r (ent : Bool → o_0z) (its : List o_1e) (b : Bool) (r : o_0z) : Prop := match its.find? fun i => decide (o_1o i = some b) with
  | none => r = ent b
  | some i => ∃ n k v, r = some (n, k, v, o_53 i)
theorem o_82 {K : o_b} {M : o_7} {Q Q' : o_0g} {pc : Nat} {Ls : List Slot} {St : List Value} {sf : List Addr} {h : Heap} {cs sl : Nat} (hq : ∀ v h xs, Q v h xs → Q' v h xs) (k : o_3 K M Q pc Ls St sf h cs sl) : o_3 K M Q' pc Ls St sf h cs sl := fun p e s vm0 k0 m args below meth c T locs cs' sl' B X hc hs eT N I => by
  obtain ⟨s₂, o, h1, h2, h3, v, L, xs, e1, q, r⟩ := k p e s vm0 k0 m args below meth c T locs cs' sl' B X hc hs eT N I
  exact ⟨s₂, o, h1, h2, h3, v, L, xs, e1, hq _ _ _ q, r⟩
def Q_par (K : o_b) (h : Heap) (D a ops m : Addr) (os : List Value) (ent : Bool → o_0z) (its : List o_1e) : o_0g := o_c fun w h' _ => ∃ (e : Addr) (s : Int32) (tb : Option Addr) (vs : List Value) (ent' : Bool → o_0z), w = .ref a ∧ Ext h h' ∧ o_22 K.Z h' a ops m ∧ o_0s K.Z h' D ops e (os ++ its.flatMap o_4f) ∧ o_0x K.Z h' m s tb vs ∧ (∀ b, o_17 K.Z h' b vs (ent' b)) ∧ ∀ b, o_3r ent its b (ent' b)
/-- the dashes, the name, and what follows -/
def o_9f (b : Bool) : List Int32 := [45, 45] ++ o_r b
theorem o_45 (b : Bool) : (o_9f b).length = 2 + (o_r b).length ∧ 1 ≤ (o_r b).length ∧ (o_r b).length ≤ 2 := by cases b <;> decide
theorem o_17.ext {Z : State} {h h' : Heap} {b : Bool} {vs : List Value} {r : o_0z} (F : o_17 Z h b vs r) (E : Ext h h') : o_17 Z h' b vs r := by
  match r, F with
  | none, F => exact F
  | some (n, k, v, ds), F => exact ⟨F.1, F.2.1.ext E, F.2.2.1.ext E, F.2.2.2.ext E⟩
theorem o_0c.grow {Z : State} {h0 h h' : Heap} {sf sf' : List Addr} {D a ops m e : Addr} {os : List Value} {s : Int32} {tb : Option Addr} {vs : List Value} {ent : Bool → o_0z} (P : o_0c Z h0 h sf D a ops m e os s tb vs ent) (E : Ext h h') (q : ∀ z ∈ sf, z ∈ sf') : o_0c Z h0 h' sf' D a ops m e os s tb vs ent :=
  ⟨o_t P.ex E, P.arg.ext E, P.lst.ext E, P.map.ext E, P.e0.ext E, P.e1.ext E, P.na, P.no, P.nm, P.ne, P.nt, q _ P.so, q _ P.sm, fun z => q _ (P.se z), fun t z => q _ (P.st t z)⟩
theorem o_h.kp {Z : State} {h h' : Heap} {x : Addr} {cs : List Int32} {ws : List Addr} (F : o_h Z h x cs) (k : Keep h h' ws) (q1 : x ∉ ws) (q2 : ∀ b c, Arr Z h b c .byte → b ∉ ws) : o_h Z h' x cs := by
  obtain ⟨f1, f2, f3, b, f4, f5, f6⟩ := F
  have nb : b ∉ ws := by obtain ⟨c, A, -⟩ := f6; exact q2 b c A
  exact ⟨f1.keep k, f2, f3, b, f4.keep k q1, f5.keep k q1, f6.keep k nb⟩
theorem o_17.kp {Z : State} {h h' : Heap} {b : Bool} {vs : List Value} {r : o_0z} {ws : List Addr} (F : o_17 Z h b vs r) (k : Keep h h' ws) (q0 : ∀ n, Exa Z h n o_16 → n ∉ ws) (q1 : ∀ x, Exa Z h x o_l → (∀ n kk v ds, r = some (n, kk, v, ds) → (x = kk ∨ x = v) → x ∉ ws)) (q2 : ∀ b c, Arr Z h b c .byte → b ∉ ws) : o_17 Z h' b vs r := by
  match r, F with
  | none, F => exact F
  | some (n, kk, v, ds), F => exact ⟨F.1, F.2.1.keep k (q0 n F.2.1.1), F.2.2.1.kp k (q1 kk F.2.2.1.1 n kk v ds rfl (Or.inl rfl)) q2, F.2.2.2.kp k (q1 v F.2.2.2.1 n kk v ds rfl (Or.inr rfl)) q2⟩
theorem o_6k {Z : State} {h : Heap} {a b : Addr} {C C' : String} {vs ws : List Value} (A : o_02 Z h a C vs) (B : o_02 Z h b C' ws) (q : C ≠ C') : a ≠ b := by
  rintro rfl
  obtain ⟨c, ⟨a1, ⟨-, k1, a2, p1, a3⟩, -⟩, -⟩ := A
  obtain ⟨c', ⟨b1, ⟨-, k2, b2, p2, b3⟩, -⟩, -⟩ := B
  cases a1.symm.trans b1
  cases a2.symm.trans b2
  rw [a3] at b3
  injection b3 with _ b3
  injection b3 with b3
  exact q b3
/-- an operand is added -/
theorem o_0c.add {Z : State} {a0 : Array Value} (hw : ∀ d ∈ tables_1, d.before a0 Z = true) {h0 h h' : Heap} {sf sf' : List Addr} {D a ops m e e' : Addr} {os : List Value} {v : Value} {s : Int32} {tb : Option Addr} {vs : List Value} {ent : Bool → o_0z} (P : o_0c Z h0 h sf D a ops m e os s tb vs ent) (k : Keep h h' (o_1n D ops e)) (L : o_0s Z h' D ops e' (os ++ [v])) (he : (e' = e ∧ e ≠ D) ∨ (e' ∈ sf' ∧ h.size ≤ e')) (q : ∀ z ∈ sf, z ∈ sf') : o_0c Z h0 h' sf' D a ops m e' (os ++ [v]) s tb vs ent := by
  have hR : e ≠ D → o_02 Z h e o_0m (os ++ List.replicate (10 - os.length) .null) := fun z => P.lst.2.2.2.2.2.elim (fun y => absurd y.1 z) (fun y => y.2)
  have na : a ∉ o_1n D ops e := o_31 (ne_exa P.arg.1 P.lst.1 (by decide)) (fun z => (o_19 (hR z).ary P.arg.1 (tw_131 hw)).symm)
  have nmm : m ∉ o_1n D ops e := o_31 (ne_exa P.map.1 P.lst.1 (by decide)) (fun z => (o_19 (hR z).ary P.map.1 (tw_141 hw)).symm)
  have nt : ∀ t, tb = some t → t ∉ o_1n D ops e := by
    rintro t rfl
    have R := P.map.2.2.2.2.2.2
    exact o_31 (o_19 R.ary P.lst.1 (tw_61 hw)) (fun z => o_6k R (hR z) (by decide))
  have q0 : ∀ n, Exa Z h n o_16 → n ∉ o_1n D ops e := fun n E => o_31 (ne_exa E P.lst.1 (by decide)) (fun z => (o_19 (hR z).ary E (tw_463 hw)).symm)
  have q1 : ∀ x, Exa Z h x o_l → x ∉ o_1n D ops e := fun x E => o_31 (ne_exa E P.lst.1 (by decide)) (fun z => (o_19 (hR z).ary E (tw_10 hw)).symm)
  have q2 : ∀ b c, Arr Z h b c .byte → b ∉ o_1n D ops e := fun b c A => o_31 (fun y => ne_arr P.lst.1 (tw_61 hw) A y.symm) (fun z => o_4i A (hR z))
  have hE : Ext h0 h' := o_f P.ex k (by
    intro z hz
    unfold o_1n at hz
    split at hz
    · cases List.mem_singleton.mp hz; exact P.no
    · rename_i y
      simp only [List.mem_cons, List.not_mem_nil, or_false] at hz
      rcases hz with rfl | rfl
      · exact P.no
      · exact P.ne y)
  have hle := P.ex.1
  exact ⟨hE, P.arg.keep k na, L, P.map.keep k nmm nt, P.e0.kp k q0 (fun x E _ _ _ _ _ _ => q1 x E) q2, P.e1.kp k q0 (fun x E _ _ _ _ _ _ => q1 x E) q2, P.na, P.no, P.nm, fun z => he.elim (fun y => by rw [y.1]; exact P.ne y.2) (fun y => Nat.le_trans hle y.2), P.nt, q _ P.so, q _ P.sm, fun z => he.elim (fun y => by rw [y.1]; exact q _ (P.se y.2)) (fun y => y.1), fun t z => q _ (P.st t z)⟩
/-- an option is put: x is its name, made since h0; v its value's address, of text ds -/
theorem o_0c.put {Z : State} {a0 : Array Value} (hw : ∀ d ∈ tables_1, d.before a0 Z = true) {h0 h h' : Heap} {sf sf' : List Addr} {D a ops m e x v t n : Addr} {os : List Value} {s : Int32} {tb : Option Addr} {vs : List Value} {ent : Bool → o_0z} {b : Bool} {ds : List Int32} {n0 : Int32} (P : o_0c Z h0 h sf D a ops m e os s tb vs ent) (k : Keep h h' (x :: o_1v m tb)) (hx : h0.size ≤ x) (SX : o_0j Z h x (o_r b) n0) (hent : ∀ n k v ds, ent (!b) = some (n, k, v, ds) → k ≠ x ∧ v ≠ x) (V : o_h Z h v ds) (hvx : v ≠ x) (ht : tb = some t ∨ (t ∈ sf' ∧ h.size ≤ t)) (M' : o_0x Z h' m (s + 1) (some t) (vs.set (o_26 b) (.ref n))) (N' : o_21 Z h' n (o_m (o_r b)) x v) (SX' : o_0j Z h' x (o_r b) (o_m (o_r b))) (q : ∀ z ∈ sf, z ∈ sf') : o_0c Z h0 h' sf' D a ops m e os (s + 1) (some t) (vs.set (o_26 b) (.ref n)) (fun c => if c = b then some (n, x, v, ds) else ent c) := by
  have EX := SX.2.2.2.1
  have ntw : ∀ t0, tb = some t0 → o_02 Z h t0 o_16 vs := by rintro t0 rfl; exact P.map.2.2.2.2.2.2
  have inw : ∀ z, z ∈ x :: o_1v m tb → z = x ∨ z = m ∨ ∃ t0, tb = some t0 ∧ z = t0 := by
    intro z hz
    rcases List.mem_cons.mp hz with hz | hz
    · exact Or.inl hz
    · rcases List.mem_cons.mp hz with hz | hz
      · exact Or.inr (Or.inl hz)
      · cases tb with
        | none => cases hz
        | some t0 => simp at hz; exact Or.inr (Or.inr ⟨t0, rfl, hz⟩)
  have nex : ∀ {y : Addr} {C : String} {kk : Nat}, Exa Z h y C → C ≠ o_0d → (Jvm.Cond.instantiable C kk).before a0 Z = true → y ≠ x → y ∉ x :: o_1v m tb := by
    intro y C kk E h1 w h2 hz
    rcases inw y hz with z | z | ⟨t0, z1, z2⟩
    · exact h2 z
    · exact ne_exa E P.map.1 h1 z
    · exact o_19 (ntw t0 z1).ary E w z2.symm
  have na := nex P.arg.1 (by decide) (tw_131 hw) (ne_exa P.arg.1 EX (by decide))
  have no := nex P.lst.1 (by decide) (tw_61 hw) (ne_exa P.lst.1 EX (by decide))
  have q0 : ∀ n, Exa Z h n o_16 → n ∉ x :: o_1v m tb := fun n E => nex E (by decide) (tw_463 hw) (ne_exa E EX (by decide))
  have q2 : ∀ y c, Arr Z h y c .byte → y ∉ x :: o_1v m tb := by
    intro y c A hz
    rcases inw y hz with z | z | ⟨t0, z1, z2⟩
    · exact ne_arr EX (tw_10 hw) A z.symm
    · exact ne_arr P.map.1 (tw_141 hw) A z.symm
    · exact o_4i A (ntw t0 z1) z2
  have ne : e ≠ D → e ∉ x :: o_1v m tb := by
    intro y hz
    have R : o_02 Z h e o_0m (os ++ List.replicate (10 - os.length) .null) := P.lst.2.2.2.2.2.elim (fun z => absurd z.1 y) (fun z => z.2)
    rcases inw e hz with z | z | ⟨t0, z1, z2⟩
    · exact o_19 R.ary EX (tw_10 hw) z
    · exact o_19 R.ary P.map.1 (tw_141 hw) z
    · exact o_6k R (ntw t0 z1) (by decide) z2
  have hE : Ext h0 h' := o_f P.ex k (by
    intro z hz
    rcases inw z hz with rfl | rfl | ⟨t0, z1, rfl⟩
    · exact hx
    · exact P.nm
    · exact P.nt _ z1)
  have hI : o_26 b < vs.length := by rw [P.map.2.2.2.1]; cases b <;> decide
  have eo : ∀ (r : o_0z), o_17 Z h (!b) vs r → (∀ n k v ds, r = some (n, k, v, ds) → k ≠ x ∧ v ≠ x) → o_17 Z h' (!b) (vs.set (o_26 b) (.ref n)) r := by
    intro r F hr
    have F2 := F.kp k q0 (fun y E n' k' v' ds' e1 e2 => nex E (by decide) (tw_10 hw) (by rcases e2 with rfl | rfl; exact (hr _ _ _ _ e1).1; exact (hr _ _ _ _ e1).2)) q2
    have hI2 : (vs.set (o_26 b) (Value.ref n))[o_26 (!b)]? = vs[o_26 (!b)]? := List.getElem?_set_ne (by cases b <;> decide)
    match r, F2 with
    | none, F2 => exact hI2.trans F2
    | some (n', k', v', ds'), F2 => exact ⟨hI2.trans F2.1, F2.2⟩
  have V' := V.kp k (nex V.1 (by decide) (tw_10 hw) hvx) q2
  have en : o_17 Z h' b (vs.set (o_26 b) (.ref n)) (some (n, x, v, ds)) := ⟨List.getElem?_set_self hI, N', SX'.str, V'⟩
  have hle := P.ex.1
  refine ⟨hE, P.arg.keep k na, P.lst.keep k no ne, M', ?_, ?_, P.na, P.no, P.nm, P.ne, ?_, q _ P.so, q _ P.sm, fun z => q _ (P.se z), ?_⟩
  · cases b
    · exact eo _ P.e0 hent
    · exact en
  · cases b
    · exact en
    · exact eo _ P.e1 hent
  · intro t0 z
    cases z
    exact ht.elim (fun y => P.nt _ y) (fun y => Nat.le_trans hle y.2)
  · intro t0 z
    cases z
    exact ht.elim (fun y => q _ (P.st _ y)) (fun y => y.1)
theorem o_0q {a b : Nat} (h : a ≤ b) : Nat.ble a b = true := Nat.ble_eq_true_of_le h
theorem o_9g : o_3s "--" = [45, 45] := by decide +kernel
theorem o_6u (b : Bool) : o_44 ([45, 45] ++ o_r b) 61 0 = -1 := by cases b <;> decide
theorem o_6l (b : Bool) (cs : List Int32) : o_44 ([45, 45] ++ o_r b ++ [61] ++ cs) 61 0 = ((2 + (o_r b).length : Nat) : Int) := by
  cases b
  · show o_2u (45 :: 45 :: 120 :: 61 :: cs) 61 (cs.length + 4 - 0) 0 = _
    rw [show cs.length + 4 - 0 = cs.length + 1 + 1 + 1 + 1 by omega]
    simp [o_2u, o_r]
  · show o_2u (45 :: 45 :: 121 :: 122 :: 61 :: cs) 61 (cs.length + 5 - 0) 0 = _
    rw [show cs.length + 5 - 0 = cs.length + 1 + 1 + 1 + 1 + 1 by omega]
    simp [o_2u, o_r]
theorem o_8n {Z : State} {h : Heap} {x z : Addr} {cs : List Int32} (S : o_h Z h x cs) (T : o_h Z h z []) (ql : o_n cs = true) (hne : cs ≠ []) : z ≠ x := by
  rintro rfl
  obtain ⟨-, -, -, b, ⟨c1, cf, k, i, f, p1, p2, -, -, -, -, p3⟩, -, ⟨d, A, q1, -⟩⟩ := S
  obtain ⟨-, -, -, b', ⟨c1', cf', k', i', f', p1', p2', -, -, -, -, p3'⟩, -, ⟨d', A', q1', -⟩⟩ := T
  cases p1.symm.trans p1'
  cases p2.symm.trans p2'
  cases p3.symm.trans p3'
  cases A.1.symm.trans A'.1
  have e := congrArg Array.size (q1.symm.trans q1')
  rw [(o_0e ql).1, (o_0e (cs := []) rfl).1] at e
  simp [o_p] at e
  exact hne e
theorem o_6m (b : Bool) {cs : List Int32} (q : o_n cs = true) : o_n ([45, 45] ++ o_r b ++ [61] ++ cs) = true := by
  have e : ([45, 45] ++ o_r b ++ [61]).all (fun c => decide (c.toInt < 256)) = true := by cases b <;> decide
  show (([45, 45] ++ o_r b ++ [61]) ++ cs).all (fun c => decide (c.toInt < 256)) = true
  rw [List.all_append, e]
  exact q
theorem o_68 {it : o_1e} {r : List o_1e} {b : Bool} (hn : o_1o it = some b) : o_0t (it :: r) b = o_0t r b + 1 := by
  simp [o_0t, hn]
theorem o_5t {it : o_1e} {r : List o_1e} {b : Bool} (hn : ¬ o_1o it = some b) : o_0t (it :: r) b = o_0t r b := by
  simp [o_0t, hn]
theorem o_8o {ent r1 : Bool → o_0z} {it : o_1e} {r : List o_1e} {b : Bool} {n z v : Addr} {ds : List Int32} (hn : o_1o it = some b) (hv : o_53 it = ds) (hu : o_0t (it :: r) b ≤ 1) (F : ∀ c, o_3r (fun c => if c = b then some (n, z, v, ds) else ent c) r c (r1 c)) : ∀ c, o_3r ent (it :: r) c (r1 c) := by
  intro c
  have Fc := F c
  by_cases hc : c = b
  · subst hc
    rw [o_68 hn] at hu
    have h0 : (r.filter fun i => decide (o_1o i = some c)) = [] := List.length_eq_zero_iff.mp (by show o_0t r c = 0; omega)
    have h1 : r.find? (fun i => decide (o_1o i = some c)) = none := by
      rw [List.find?_eq_none]
      intro i hi hd
      have q : i ∈ r.filter fun i => decide (o_1o i = some c) := List.mem_filter.mpr ⟨hi, hd⟩
      rw [h0] at q
      cases q
    unfold o_3r at Fc ⊢
    rw [h1] at Fc
    rw [List.find?_cons_of_pos (by simp [hn])]
    have Fd : r1 c = (if c = c then some (n, z, v, ds) else ent c) := Fc
    rw [if_pos rfl] at Fd
    exact ⟨n, z, v, by rw [Fd, hv]⟩
  · unfold o_3r at Fc ⊢
    rw [List.find?_cons_of_neg (by simp [hn]; exact fun q => hc q.symm)]
    cases hr : r.find? (fun i => decide (o_1o i = some c)) with
    | none =>
      rw [hr] at Fc
      have Fd : r1 c = (if c = b then some (n, z, v, ds) else ent c) := Fc
      rw [if_neg hc] at Fd
      exact Fd
    | some i =>
      rw [hr] at Fc
      exact Fc
theorem d_par_0 : decode Bn0 0 = .ok (.new 11, 3) := by decide +kernel
theorem d_par_3 : decode Bn0 3 = .ok (.dup, 1) := by decide +kernel
theorem d_par_4 : decode Bn0 4 = .ok (.invokespecial 23, 3) := by decide +kernel
theorem d_par_7 : decode Bn0 7 = .ok (.astore_n 2, 1) := by decide +kernel
theorem d_par_8 : decode Bn0 8 = .ok (.iconst 0, 1) := by decide +kernel
theorem d_par_9 : decode Bn0 9 = .ok (.istore_n 3, 1) := by decide +kernel
theorem d_par_10 : decode Bn0 10 = .ok (.iload_n 3, 1) := by decide +kernel
theorem d_par_11 : decode Bn0 11 = .ok (.aload_n 0, 1) := by decide +kernel
theorem d_par_12 : decode Bn0 12 = .ok (.invokeinterface 24 1, 5) := by decide +kernel
theorem d_par_17 : decode Bn0 17 = .ok (.if_icmp .ge 187, 3) := by decide +kernel
theorem d_par_20 : decode Bn0 20 = .ok (.aload_n 0, 1) := by decide +kernel
theorem d_par_21 : decode Bn0 21 = .ok (.iload_n 3, 1) := by decide +kernel
theorem d_par_22 : decode Bn0 22 = .ok (.invokeinterface 30 2, 5) := by decide +kernel
theorem d_par_27 : decode Bn0 27 = .ok (.checkcast 34, 3) := by decide +kernel
theorem d_par_30 : decode Bn0 30 = .ok (.astore 4, 2) := by decide +kernel
theorem d_par_32 : decode Bn0 32 = .ok (.aload 4, 2) := by decide +kernel
theorem d_par_34 : decode Bn0 34 = .ok (.ldc 36, 2) := by decide +kernel
theorem d_par_36 : decode Bn0 36 = .ok (.invokevirtual 38, 3) := by decide +kernel
theorem d_par_39 : decode Bn0 39 = .ok (.ifCond .ne 18, 3) := by decide +kernel
theorem d_par_42 : decode Bn0 42 = .ok (.aload_n 2, 1) := by decide +kernel
theorem d_par_43 : decode Bn0 43 = .ok (.getfield 10, 3) := by decide +kernel
theorem d_par_46 : decode Bn0 46 = .ok (.aload 4, 2) := by decide +kernel
theorem d_par_48 : decode Bn0 48 = .ok (.invokeinterface 42 2, 5) := by decide +kernel
theorem d_par_53 : decode Bn0 53 = .ok (.pop, 1) := by decide +kernel
theorem d_par_54 : decode Bn0 54 = .ok (.goto 144, 3) := by decide +kernel
theorem d_par_57 : decode Bn0 57 = .ok (.aload 4, 2) := by decide +kernel
theorem d_par_59 : decode Bn0 59 = .ok (.bipush 61, 2) := by decide +kernel
theorem d_par_61 : decode Bn0 61 = .ok (.invokevirtual 46, 3) := by decide +kernel
theorem d_par_64 : decode Bn0 64 = .ok (.istore 5, 2) := by decide +kernel
theorem d_par_66 : decode Bn0 66 = .ok (.aload 4, 2) := by decide +kernel
theorem d_par_68 : decode Bn0 68 = .ok (.iconst 2, 1) := by decide +kernel
theorem d_par_69 : decode Bn0 69 = .ok (.iload 5, 2) := by decide +kernel
theorem d_par_71 : decode Bn0 71 = .ok (.ifCond .ge 11, 3) := by decide +kernel
theorem d_par_74 : decode Bn0 74 = .ok (.aload 4, 2) := by decide +kernel
theorem d_par_76 : decode Bn0 76 = .ok (.invokevirtual 50, 3) := by decide +kernel
theorem d_par_79 : decode Bn0 79 = .ok (.goto 5, 3) := by decide +kernel
theorem d_par_82 : decode Bn0 82 = .ok (.iload 5, 2) := by decide +kernel
theorem d_par_84 : decode Bn0 84 = .ok (.invokevirtual 53, 3) := by decide +kernel
theorem d_par_87 : decode Bn0 87 = .ok (.astore 6, 2) := by decide +kernel
theorem d_par_89 : decode Bn0 89 = .ok (.aload_n 1, 1) := by decide +kernel
theorem d_par_90 : decode Bn0 90 = .ok (.aload 6, 2) := by decide +kernel
theorem d_par_92 : decode Bn0 92 = .ok (.invokeinterface 57 2, 5) := by decide +kernel
theorem d_par_97 : decode Bn0 97 = .ok (.ifCond .ne 14, 3) := by decide +kernel
theorem d_par_111 : decode Bn0 111 = .ok (.iload 5, 2) := by decide +kernel
theorem d_par_113 : decode Bn0 113 = .ok (.ifCond .ge 26, 3) := by decide +kernel
theorem d_par_116 : decode Bn0 116 = .ok (.iload_n 3, 1) := by decide +kernel
theorem d_par_117 : decode Bn0 117 = .ok (.iconst 1, 1) := by decide +kernel
theorem d_par_118 : decode Bn0 118 = .ok (.iadd, 1) := by decide +kernel
theorem d_par_119 : decode Bn0 119 = .ok (.aload_n 0, 1) := by decide +kernel
theorem d_par_120 : decode Bn0 120 = .ok (.invokeinterface 24 1, 5) := by decide +kernel
theorem d_par_125 : decode Bn0 125 = .ok (.if_icmp .ne 14, 3) := by decide +kernel
theorem d_par_139 : decode Bn0 139 = .ok (.iload 5, 2) := by decide +kernel
theorem d_par_141 : decode Bn0 141 = .ok (.ifCond .ge 19, 3) := by decide +kernel
theorem d_par_144 : decode Bn0 144 = .ok (.aload_n 0, 1) := by decide +kernel
theorem d_par_145 : decode Bn0 145 = .ok (.iinc 3 1, 3) := by decide +kernel
theorem d_par_148 : decode Bn0 148 = .ok (.iload_n 3, 1) := by decide +kernel
theorem d_par_149 : decode Bn0 149 = .ok (.invokeinterface 30 2, 5) := by decide +kernel
theorem d_par_154 : decode Bn0 154 = .ok (.checkcast 34, 3) := by decide +kernel
theorem d_par_157 : decode Bn0 157 = .ok (.goto 12, 3) := by decide +kernel
theorem d_par_160 : decode Bn0 160 = .ok (.aload 4, 2) := by decide +kernel
theorem d_par_162 : decode Bn0 162 = .ok (.iload 5, 2) := by decide +kernel
theorem d_par_164 : decode Bn0 164 = .ok (.iconst 1, 1) := by decide +kernel
theorem d_par_165 : decode Bn0 165 = .ok (.iadd, 1) := by decide +kernel
theorem d_par_166 : decode Bn0 166 = .ok (.invokevirtual 73, 3) := by decide +kernel
theorem d_par_169 : decode Bn0 169 = .ok (.astore 7, 2) := by decide +kernel
theorem d_par_171 : decode Bn0 171 = .ok (.aload_n 2, 1) := by decide +kernel
theorem d_par_172 : decode Bn0 172 = .ok (.getfield 19, 3) := by decide +kernel
theorem d_par_175 : decode Bn0 175 = .ok (.aload 6, 2) := by decide +kernel
theorem d_par_177 : decode Bn0 177 = .ok (.aload 7, 2) := by decide +kernel
theorem d_par_179 : decode Bn0 179 = .ok (.invokeinterface 76 3, 5) := by decide +kernel
theorem d_par_184 : decode Bn0 184 = .ok (.ifnull 14, 3) := by decide +kernel
theorem d_par_198 : decode Bn0 198 = .ok (.iinc 3 1, 3) := by decide +kernel
theorem d_par_201 : decode Bn0 201 = .ok (.goto (-191), 3) := by decide +kernel
theorem d_par_204 : decode Bn0 204 = .ok (.aload_n 2, 1) := by decide +kernel
theorem d_par_205 : decode Bn0 205 = .ok (.areturn, 1) := by decide +kernel
abbrev M_par : o_7 := (Yn90, prog_1_method_2_code, 8, (Option.some (FieldType.object "com/example/hand_balancer/handbalancer/cli/Arguments")), ({ frames := 6, cells := 43, slots := 293, locals := 135 } : Room))
theorem pn_par : plainFor (o_7.y M_par) = true := plainFor_of_name (by first | (simp [plainName, overriddenIn]; done) | decide +kernel)
theorem c_par (K : o_b) (a0 : Array Value) (hw : ∀ d ∈ tables_1, d.before a0 K.Z = true) (hnw : K.nw = false) (hEL : EW K.Z a0 K.E) (hme : (o_39, 36) ∈ K.E) (hm2 : ("java/lang/StringLatin1", 151) ∈ K.E) (rf : Value) (hrf : rf.isRef = true) (SF : Sta K.Z K.Z.heap "jdk/internal/util/Preconditions" "SIOOBE_FORMATTER" "Ljava/util/function/BiFunction;" rf) (D : Addr) (SD : Sta K.Z K.Z.heap o_0r "DEFAULTCAPACITY_EMPTY_ELEMENTDATA" o_11 (.ref D)) (g : Int32) (SC : Sta K.Z K.Z.heap o_l "COMPACT_STRINGS" "Z" (.int g)) (hg : ¬ g = 0) (l e0 st x y : Addr) (its : List o_1e) (xs : List Value) (h : Heap) (AD : o_g K.Z h D (.object o_0m) []) (L : o_0s K.Z h D l e0 xs) (hxs : xs = its.flatMap o_3q) (hok : ∀ i ∈ its, o_4y K.Z h i) (S2 : o_4e K.Z h st x y) (SX : o_h K.Z h x [120]) (SY : o_h K.Z h y [121, 122]) (hu : ∀ b, o_0t its b ≤ 1) (hlen : its.length ≤ 5) :
    o_9 K M_par #[.ref l, .ref st] [] h (o_c fun w h' _ => ∃ (a ops m e : Addr) (s : Int32) (tb : Option Addr) (vs : List Value) (ent' : Bool → o_0z), w = .ref a ∧ Ext h h' ∧ o_22 K.Z h' a ops m ∧ o_0s K.Z h' D ops e (its.flatMap o_4f) ∧ o_0x K.Z h' m s tb vs ∧ (∀ b, o_17 K.Z h' b vs (ent' b)) ∧ ∀ b, o_3r (fun _ => none) its b (ent' b)) := by
  have v1 : (1 : Int32).toInt = 1 := rfl
  have v0 : (0 : Int32).toInt = 0 := rfl
  have hxl := L.2.2.2.2.1
  have hn : (xs.length.toInt32).toInt = xs.length := o_0o _ (by omega)
  have lD : @LT.lt Nat _ _ _ := AD.lt
  suffices key : ∀ (its' : List o_1e) (pre : List Value) (i : Int32) (j : Nat) (a ops m e : Addr) (os : List Value) (s : Int32) (tb : Option Addr) (vs : List Value) (ent : Bool → o_0z) (h1 : Heap) (sf : List Addr) (o4 o5 o6 o7 : Slot), xs = pre ++ its'.flatMap o_3q → i.toInt = pre.length → j + its'.length ≤ 5 → o_0c K.Z h h1 sf D a ops m e os s tb vs ent → (∀ it ∈ its', o_4y K.Z h it) → (∀ b, o_0t its' b ≤ 1 ∧ (0 < o_0t its' b → ent b = none)) → os.length ≤ j → 0 ≤ s.toInt → s.toInt ≤ j → One o4 → One o5 → One o6 → One o7 → o_3 K M_par (Q_par K h D a ops m os ent its') 10 [.val (.ref l), .val (.ref st), .val (.ref a), .val (.int i), o4, o5, o6, o7] [] sf h1 (3 + 8 * j) (13 + 56 * j) by
    refine o_5a (M := M_par) pn_par rfl (by first | rfl | exact o_5 (by assumption)) (by first | rfl | exact o_5 (by assumption)) ?_
    refine o_29 (pc' := 3) rfl d_par_0 (o_0 hw 130 rfl) (tw_131 hw) (tw_128 hw) rfl rfl ?_
    intro a h1 ea E1 X1 D1
    refine o_0a (pc' := 4) rfl d_par_3 (by first | rfl | assumption) ?_
    refine o_10 (M' := M_arg) d_par_4 (pc' := 7) rfl rfl rfl (o_0 hw 132 rfl) (o_0 hw 133 rfl) (tw_128 hw) (o_0 hw 134 rfl) (by decide) rfl (o_6 pd_14 rfl) rfl rfl rfl rfl (c_arg K a0 hw D SD a h1 X1 (D1 (Or.inr (tw_139 hw)) (ty := .object "java/util/List") (by decide)) (D1 (Or.inr (tw_157 hw)) (ty := .object "java/util/Map") (by decide))) (by simp) ?_
    rintro h2 xs2 ⟨k2, ops, m, ho, hm, zo, zm, G2, L2, M2⟩
    have hle := E1.1
    have P2 : o_0c K.Z h h2 (xs2 ++ (a :: [])) D a ops m D [] 0 none (List.replicate 16 .null) (fun _ => none) := ⟨o_f E1 k2 (by intro z hz; cases List.mem_singleton.mp hz; omega), G2, L2, M2, rfl, rfl, by omega, by omega, by omega, fun q => absurd rfl q, fun t q => (nomatch q), by simp [ho], by simp [hm], fun q => absurd rfl q, fun t q => (nomatch q)⟩
    refine o_23 (pc' := 8) rfl d_par_7 (by first | exact One.u | exact One.val rfl | assumption | exact One.val (by assumption)) (by first | rfl | assumption) ?_
    refine o_4 (v := (0 : Int32)) (pc' := 9) rfl d_par_8 rfl ?_
    refine o_1i (pc' := 10) rfl d_par_9 (by first | exact One.u | exact One.val rfl | assumption | exact One.val (by assumption)) ?_
    refine o_s (o_82 ?_ (key its [] 0 0 a ops m D [] 0 none _ _ h2 _ .unset .unset .unset .unset hxs rfl (by omega) P2 hok (fun b => ⟨hu b, fun _ => rfl⟩) (by simp) (by decide) (by decide) One.u One.u One.u One.u)) (fun z hz => hz) (by exact Nat.le_of_ble_eq_true rfl) (by exact Nat.le_of_ble_eq_true rfl)
    rintro v h' ys ⟨w, rfl, e, s, tb, vs, ent', q1, q2, q3, q4, q5, q6, q7⟩
    exact ⟨w, rfl, a, ops, m, e, s, tb, vs, ent', q1, q2, q3, by simpa using q4, q5, q6, q7⟩
  intro its'
  induction its' with
  | nil =>
    intro pre i j a ops m e os s tb vs ent h1 sf o4 o5 o6 o7 hx hi hj P hk hus hos hs0 hs1 ho4 ho5 ho6 ho7
    have hpl : pre.length = xs.length := by rw [hx]; simp
    have L1 := L.ext P.ex
    refine o_2 (pc' := 11) rfl d_par_10 rfl ?_
    refine o_1 (pc' := 12) rfl d_par_11 rfl (by first | rfl | assumption) ?_
    refine o_2y (M' := M_asz) d_par_12 (pc' := 17) rfl (tw_158 hw) (tw_159 hw) (tw_160 hw) rfl (tw_161 hw) (tw_162 hw) (tw_163 hw) (tw_164 hw) (tw_165 hw) (tw_62 hw) (tw_166 hw) (by decide) rfl (o_6 pd_13 rfl) rfl rfl (o_0q (by show 3 + 8 * j + 0 ≤ 43; omega)) (o_0q (by show 13 + 56 * j + 0 ≤ 293; omega)) L1.1 (c_asz K a0 hw D l e0 xs h1 L1) (by simp) ?_
    rintro w h2 xs2 ⟨rfl, rfl⟩
    refine o_14 (pcT := 204) (pcF := 20) d_par_17 (by decide) (by decide) rfl (fun q => ?_) (fun q => ?_)
    rotate_left 1
    · rw [Int32.lt_iff_toInt_lt] at q
      omega
    refine o_1 (pc' := 205) rfl d_par_204 rfl (by first | rfl | assumption) ?_
    refine o_i rfl rfl (by first | rfl | assumption) d_par_205 (o_0q (by show 3 + 8 * j + 0 ≤ 43; omega)) (o_0q (by show 13 + 56 * j + 0 ≤ 293; omega)) ?_
    exact ⟨e, s, tb, vs, ent, rfl, P.ex, P.arg, by simpa using P.lst, P.map, fun b => by cases b; exact P.e1; exact P.e0, fun b => rfl⟩
  | cons it r ih =>
    intro pre i j a ops m e os s tb vs ent h1 sf o4 o5 o6 o7 hx hi hj P hk hus hos hs0 hs1 ho4 ho5 ho6 ho7
    have hjl : j + r.length + 1 ≤ 5 := by simp only [List.length_cons] at hj; omega
    have head : ∀ (x0 : Addr) (c0 : List Int32) (rest : List Value), o_3q it = .ref x0 :: rest → o_h K.Z h x0 c0 → o_n c0 = true → c0.length ≤ 7 → (∀ (h2 : Heap) (sf2 : List Addr), o_0c K.Z h h2 sf2 D a ops m e os s tb vs ent → o_3 K M_par (Q_par K h D a ops m os ent (it :: r)) 39 [.val (.ref l), .val (.ref st), .val (.ref a), .val (.int i), .val (.ref x0), o5, o6, o7] [.int (if c0.take 2 = [45, 45] then 1 else 0)] sf2 h2 (5 + 8 * j) (25 + 56 * j)) → o_3 K M_par (Q_par K h D a ops m os ent (it :: r)) 10 [.val (.ref l), .val (.ref st), .val (.ref a), .val (.int i), o4, o5, o6, o7] [] sf h1 (3 + 8 * j) (13 + 56 * j) := by
      intro x0 c0 rest hrs S0 q0 hl0 kk
      have hv : xs[pre.length]? = some (.ref x0) := by rw [hx, List.flatMap_cons, hrs]; simp
      have hlt := (List.getElem?_eq_some_iff.mp hv).1
      have L1 := L.ext P.ex
      have S1 := S0.ext P.ex
      refine o_2 (pc' := 11) rfl d_par_10 rfl ?_
      refine o_1 (pc' := 12) rfl d_par_11 rfl (by first | rfl | assumption) ?_
      refine o_2y (M' := M_asz) d_par_12 (pc' := 17) rfl (tw_158 hw) (tw_159 hw) (tw_160 hw) rfl (tw_161 hw) (tw_162 hw) (tw_163 hw) (tw_164 hw) (tw_165 hw) (tw_62 hw) (tw_166 hw) (by decide) rfl (o_6 pd_13 rfl) rfl rfl (o_0q (by show 3 + 8 * j + 0 ≤ 43; omega)) (o_0q (by show 13 + 56 * j + 0 ≤ 293; omega)) L1.1 (c_asz K a0 hw D l e0 xs h1 L1) (by simp) ?_
      rintro w h2 xs2 ⟨rfl, rfl⟩
      refine o_14 (pcT := 204) (pcF := 20) d_par_17 (by decide) (by decide) rfl (fun q => ?_) (fun q => ?_)
      · exact absurd (by rw [Int32.lt_iff_toInt_lt]; omega) q
      refine o_1 (pc' := 21) rfl d_par_20 rfl (by first | rfl | assumption) ?_
      refine o_2 (pc' := 22) rfl d_par_21 rfl ?_
      refine o_0u (M' := M_agt) d_par_22 (pc' := 27) rfl (tw_289 hw) (tw_290 hw) (tw_291 hw) rfl (tw_292 hw) (tw_293 hw) (tw_294 hw) (tw_295 hw) (tw_165 hw) (tw_62 hw) (tw_296 hw) (by decide) rfl (o_6 pd_17 rfl) rfl rfl (o_0q (by show 3 + 8 * j + 0 + 0 ≤ 43; omega)) (o_0q (by show 13 + 56 * j + 0 + 0 ≤ 293; omega)) L1.1 (c_agt K a0 hw D l e0 xs i pre.length (.ref x0) _ L1 hi hv rfl) (by simp) ?_
      rintro w h3 xs3 ⟨rfl, rfl⟩
      refine o_24 (pc' := 30) rfl d_par_27 (tw_309 hw) (Ins.self S1.1) ?_
      refine o_40 (pc' := 32) rfl d_par_30 (by first | exact One.u | exact One.val rfl | assumption | exact One.val (by assumption)) (by first | rfl | assumption) ?_
      refine o_d (pc' := 34) rfl d_par_32 rfl (by first | rfl | assumption) ?_
      refine o_4c (n := 8) hnw (pc' := 36) rfl d_par_34 (hw _ (List.mem_of_getElem? (i := 310) rfl)) (o_3x hw) hEL hme (by decide +kernel) (by decide +kernel) (by decide +kernel) (by decide +kernel) (by decide +kernel) (by decide +kernel) (by decide +kernel) rfl (o_0q (by show 3 + 8 * j + 0 + 0 + 2 ≤ 43; omega)) (o_0q (by show 13 + 56 * j + 0 + 0 + 12 ≤ 293; omega)) ?_
      intro y0 h4 E4 Y4
      rw [o_9g] at Y4
      refine o_0l (M' := M_sw1) d_par_36 (pc' := 39) rfl (o_0 hw 311 rfl) (o_0 hw 312 rfl) (o_0 hw 314 rfl) (o_0 hw 313 rfl) (tw_2 hw) (o_0 hw 315 rfl) (by decide) rfl (o_6 pd_45 rfl) rfl rfl (o_0q (by show 3 + 8 * j + 0 + 0 + 2 + 0 ≤ 43; omega)) (o_0q (by show 13 + 56 * j + 0 + 0 + 12 + 0 ≤ 293; omega)) (S1.ext E4).1 (c_sw1 K a0 hw g SC hg x0 y0 c0 [45, 45] h4 (S1.ext E4) Y4 (by decide) (by omega) q0 (by decide)) (by simp) ?_
      rintro w h5 xs5 ⟨rfl, rfl⟩
      exact o_s (kk h5 sf (P.grow E4 (fun z hz => hz))) (fun z hz => by simp [hz]) (by show 3 + 8 * j + 0 + 0 + 2 + 0 ≤ 5 + 8 * j; omega) (by show 13 + 56 * j + 0 + 0 + 12 + 0 ≤ 25 + 56 * j; omega)
    have turn : ∀ (pre' : List Value) (i' : Int32) (e' : Addr) (os' : List Value) (s' : Int32) (tb' : Option Addr) (vs' : List Value) (ent' : Bool → o_0z) (h2 : Heap) (sf2 : List Addr) (p4 p5 p6 p7 : Slot), xs = pre' ++ r.flatMap o_3q → i'.toInt + 1 = pre'.length → o_0c K.Z h h2 sf2 D a ops m e' os' s' tb' vs' ent' → (∀ b, o_0t r b ≤ 1 ∧ (0 < o_0t r b → ent' b = none)) → os'.length ≤ j + 1 → 0 ≤ s'.toInt → s'.toInt ≤ j + 1 → One p4 → One p5 → One p6 → One p7 → (∀ v h' ys, Q_par K h D a ops m os' ent' r v h' ys → Q_par K h D a ops m os ent (it :: r) v h' ys) → o_3 K M_par (Q_par K h D a ops m os ent (it :: r)) 198 [.val (.ref l), .val (.ref st), .val (.ref a), .val (.int i'), p4, p5, p6, p7] [] sf2 h2 (11 + 8 * j) (69 + 56 * j) := by
      intro pre' i' e' os' s' tb' vs' ent' h2 sf2 p4 p5 p6 p7 hx' hi' P' hus' hos' hs0' hs1' hp4 hp5 hp6 hp7 hq
      have hpx : pre'.length ≤ xs.length := by rw [hx']; simp
      have hii : (i' + 1).toInt = i'.toInt + 1 := by rw [o_20 rfl v1] <;> omega
      refine o_5e (z := (1 : Int32)) (pc' := 201) rfl d_par_198 rfl ?_
      refine o_o (pc' := 10) d_par_201 (by decide) (by decide) ?_
      exact o_s (o_82 hq (ih pre' (i' + 1) (j + 1) a ops m e' os' s' tb' vs' ent' h2 sf2 p4 p5 p6 p7 hx' (by rw [hii]; exact hi') (by omega) P' (fun t ht => hk t (List.mem_cons_of_mem _ ht)) hus' hos' hs0' hs1' hp4 hp5 hp6 hp7)) (fun z hz => hz) (by omega) (by omega)
    have put : ∀ (pre' : List Value) (i' q : Int32) (x0 z v : Addr) (b : Bool) (ds : List Int32) (h2 : Heap) (sf2 : List Addr), xs = pre' ++ r.flatMap o_3q → i'.toInt + 1 = pre'.length → o_1o it = some b → o_53 it = ds → o_4f it = [] → o_0c K.Z h h2 sf2 D a ops m e os s tb vs ent → h.size ≤ z → z ∈ sf2 → o_0j K.Z h2 z (o_r b) 0 → (∀ n k v ds, ent (!b) = some (n, k, v, ds) → k ≠ z ∧ v ≠ z) → o_h K.Z h2 v ds → v ≠ z → o_3 K M_par (Q_par K h D a ops m os ent (it :: r)) 169 [.val (.ref l), .val (.ref st), .val (.ref a), .val (.int i'), .val (.ref x0), .val (.int q), .val (.ref z), o7] [.ref v] sf2 h2 (9 + 8 * j) (49 + 56 * j) := by
      intro pre' i' q x0 z v b ds h2 sf2 hx' hi' hnm hvl hop P2 hz hzs Z2 hez V2 hvz
      have f := o_5k b
      have hub := hus b
      rw [o_68 hnm] at hub
      have he0 : ent b = none := hub.2 (by omega)
      have hnl : vs[o_26 b]? = some .null := by
        have q0 : o_17 K.Z h2 b vs (ent b) := by cases b; exact P2.e1; exact P2.e0
        rw [he0] at q0
        exact q0
      refine o_41 (pc' := 171) rfl d_par_169 (by first | exact One.u | exact One.val rfl | assumption | exact One.val (by assumption)) (by first | rfl | assumption) ?_
      refine o_1 (pc' := 172) rfl d_par_171 rfl (by first | rfl | assumption) ?_
      refine o_q (pc' := 175) rfl d_par_172 (tw_156 hw) Via.refl P2.arg.2.2 ?_
      refine o_d (pc' := 177) rfl d_par_175 rfl (by first | rfl | assumption) ?_
      refine o_d (pc' := 179) rfl d_par_177 rfl (by first | rfl | assumption) ?_
      refine o_9q (M' := M_put) d_par_179 (pc' := 184) rfl (o_0 hw 412 rfl) (o_0 hw 413 rfl) (o_0 hw 414 rfl) rfl (o_0 hw 415 rfl) (o_0 hw 416 rfl) (o_0 hw 417 rfl) (o_0 hw 418 rfl) (tw_233 hw) (tw_142 hw) (o_0 hw 419 rfl) (by decide) rfl (o_6 pd_46 rfl) rfl rfl (o_0q (by show 9 + 8 * j + 2 ≤ 43; omega)) (o_0q (by show 49 + 56 * j + 20 ≤ 293; omega)) P2.map.1 (c_put K a0 hw g SC hg m z v s tb vs (o_26 b) (o_r b) 0 h2 P2.map Z2 (Or.inl rfl) f.2.2.1 f.2.2.2.1 (c_LH K a0 hw b) f.2.2.2.2 hnl hs0 (by omega)) (by intro y hy; rcases List.mem_cons.mp hy with rfl | hy; exact hzs; rcases List.mem_cons.mp hy with rfl | hy; exact P2.sm; cases tb with | none => cases hy | some t0 => simp at hy; rw [hy]; exact P2.st _ rfl) ?_
      rintro w h3 xs3 ⟨rfl, k3, t, n, ht, hn3, M3, N3, Z3⟩
      have P3 := P2.put hw (sf' := xs3 ++ sf2) k3 hz Z2 hez V2 hvz (ht.imp id (fun y => ⟨List.mem_append_left _ y.1, y.2⟩)) M3 N3 Z3 (fun y hy => List.mem_append_right _ hy)
      refine o_3n (pc' := 198) d_par_184 (by decide) (by decide) ?_
      have hs2 : (s + 1).toInt = s.toInt + 1 := by
        have hsn : s.toInt = ((s.toInt.toNat : Nat) : Int) := by omega
        rw [o_20 hsn v1] <;> omega
      refine o_s (turn pre' i' e os (s + 1) (some t) _ _ h3 (xs3 ++ sf2) (.val (.ref x0)) (.val (.int q)) (.val (.ref z)) (.val (.ref v)) hx' hi' P3 ?_ (by omega) (by omega) (by omega) (One.val rfl) (One.val rfl) (One.val rfl) (One.val rfl) ?_) (fun y hy => hy) (by show 9 + 8 * j + 2 ≤ 11 + 8 * j; omega) (by show 49 + 56 * j + 20 ≤ 69 + 56 * j; omega)
      · intro c
        by_cases hc : c = b
        · subst hc
          exact ⟨by omega, fun y => absurd y (by omega)⟩
        · have hmiss : o_0t (it :: r) c = o_0t r c := o_5t (by rw [hnm]; exact fun y => hc (Option.some.inj y).symm)
          have := hus c
          rw [hmiss] at this
          exact ⟨this.1, fun y => by rw [if_neg hc]; exact this.2 y⟩
      · rintro v' h' ys ⟨w, rfl, e1, s1, tb1, vs1, ent1, q1, q2, q3, q4, q5, q6, q7⟩
        exact ⟨w, rfl, e1, s1, tb1, vs1, ent1, q1, q2, q3, by rw [List.flatMap_cons, hop, List.nil_append]; exact q4, q5, q6, o_8o hnm hvl (hus b).1 q7⟩
    have mid : ∀ (x0 : Addr) (c0 : List Int32) (b : Bool) (rest : List Value), o_3q it = .ref x0 :: rest → o_h K.Z h x0 c0 → o_n c0 = true → c0.length ≤ 7 → 2 + (o_r b).length ≤ c0.length → c0.take 2 = [45, 45] → (c0.drop 2).take (o_r b).length = o_r b → ((o_44 c0 61 0 = -1 ∧ c0.length = 2 + (o_r b).length) ∨ o_44 c0 61 0 = ((2 + (o_r b).length : Nat) : Int)) → (∀ (q : Int32) (z : Addr) (h2 : Heap) (sf2 : List Addr), q.toInt = o_44 c0 61 0 → o_0c K.Z h h2 sf2 D a ops m e os s tb vs ent → h.size ≤ z → z ∈ sf2 → o_0j K.Z h2 z (o_r b) 0 → (∀ n k v ds, ent (!b) = some (n, k, v, ds) → k ≠ z ∧ v ≠ z) → o_3 K M_par (Q_par K h D a ops m os ent (it :: r)) 111 [.val (.ref l), .val (.ref st), .val (.ref a), .val (.int i), .val (.ref x0), .val (.int q), .val (.ref z), o7] [] sf2 h2 (7 + 8 * j) (37 + 56 * j)) → o_3 K M_par (Q_par K h D a ops m os ent (it :: r)) 10 [.val (.ref l), .val (.ref st), .val (.ref a), .val (.int i), o4, o5, o6, o7] [] sf h1 (3 + 8 * j) (13 + 56 * j) := by
      intro x0 c0 b rest hrs S0 q0 hl0 hln htk hnm hix kk
      refine head x0 c0 rest hrs S0 q0 hl0 (fun h2 sf2 P2 => ?_)
      rw [if_pos htk]
      refine o_0k (pcT := 57) (pcF := 42) d_par_39 (by decide) (by decide) rfl (fun z0 => ?_) (fun z0 => ?_)
      rotate_left 1
      · exact absurd z0 (by decide)
      have T2 := S0.ext P2.ex
      refine o_d (pc' := 59) rfl d_par_57 rfl (by first | rfl | assumption) ?_
      refine o_u (v := (61 : Int32)) (pc' := 61) rfl d_par_59 rfl ?_
      refine o_0l (M' := M_si1x) d_par_61 (pc' := 64) rfl (o_0 hw 336 rfl) (o_0 hw 337 rfl) (o_0 hw 339 rfl) (o_0 hw 338 rfl) (tw_2 hw) (o_0 hw 340 rfl) (by decide) rfl (o_6 pd_33 rfl) rfl rfl (o_0q (by show 5 + 8 * j + 0 ≤ 43; omega)) (o_0q (by show 25 + 56 * j + 0 ≤ 293; omega)) T2.1 (c_si1x K a0 hw g SC hg x0 c0 61 h2 T2 q0 (by omega) (by decide) (by decide)) (by simp) ?_
      rintro w h3 xs3 ⟨q, rfl, hq, rfl⟩
      have fin : ∀ (n : Int32) (sf5 : List Addr), n.toInt = ((2 + (o_r b).length : Nat) : Int) → (∀ y ∈ sf2, y ∈ sf5) → o_3 K M_par (Q_par K h D a ops m os ent (it :: r)) 84 [.val (.ref l), .val (.ref st), .val (.ref a), .val (.int i), .val (.ref x0), .val (.int q), o6, o7] [.int n, .int 2, .ref x0] sf5 h3 (5 + 8 * j) (25 + 56 * j) := by
        intro n sf5 hn hsf
        have e2 : 2 + (o_r b).length - 2 = (o_r b).length := by omega
        have hl1 := (o_45 b).2.1
        refine o_2r (M' := M_sub) d_par_84 (pc' := 87) rfl (o_0 hw 364 rfl) (tw_365 hw) (tw_367 hw) (tw_366 hw) (tw_2 hw) (tw_368 hw) (by decide) rfl (o_6 pd_43 rfl) rfl rfl (o_0q (by show 5 + 8 * j + 2 ≤ 43; omega)) (o_0q (by show 25 + 56 * j + 12 ≤ 293; omega)) T2.1 (c_subH K a0 hw hnw hEL hm2 rf hrf SF g SC hg x0 2 n 2 (2 + (o_r b).length) c0 h3 rfl hn (by omega) (by omega) hln hl0 q0 T2) (by simp) ?_
        rintro w h4 xs4 ⟨z, rfl, E4, S4, q4⟩
        rw [e2, hnm] at S4 q4
        obtain ⟨z1, z2, z3⟩ := q4 hl1
        have P4 := P2.grow (sf' := xs4 ++ sf5) E4 (fun y hy => List.mem_append_right _ (hsf y hy))
        have hez : ∀ n k v ds, ent (!b) = some (n, k, v, ds) → k ≠ z ∧ v ≠ z := by
          intro n k v ds hh
          have q5 : o_17 K.Z h3 (!b) vs (ent (!b)) := by cases b; exact P2.e0; exact P2.e1
          rw [hh] at q5
          have l1 : @LT.lt Nat _ k h3.size := q5.2.2.1.lt
          have l2 : @LT.lt Nat _ v h3.size := q5.2.2.2.lt
          exact ⟨by show @Ne Nat k z; omega, by show @Ne Nat v z; omega⟩
        have hz0 : @LE.le Nat _ h.size z := Nat.le_trans P2.ex.1 z1
        refine o_3k (pc' := 89) rfl d_par_87 (by first | exact One.u | exact One.val rfl | assumption | exact One.val (by assumption)) (by first | rfl | assumption) ?_
        refine o_1 (pc' := 90) rfl d_par_89 rfl (by first | rfl | assumption) ?_
        refine o_d (pc' := 92) rfl d_par_90 rfl (by first | rfl | assumption) ?_
        refine o_0u (M' := M_s2c) d_par_92 (pc' := 97) rfl (o_0 hw 396 rfl) (o_0 hw 397 rfl) (o_0 hw 398 rfl) rfl (o_0 hw 399 rfl) (o_0 hw 400 rfl) (o_0 hw 401 rfl) (o_0 hw 402 rfl) (o_0 hw 403 rfl) (tw_90 hw) (o_0 hw 404 rfl) (by decide) rfl (o_6 pd_27 rfl) rfl rfl (o_0q (by show 5 + 8 * j + 2 + 0 ≤ 43; omega)) (o_0q (by show 25 + 56 * j + 12 + 0 ≤ 293; omega)) (S2.ext P4.ex).1 (c_s2c K a0 hw g SC hg st x y z [120] [121, 122] (o_r b) h4 (SX.ext P4.ex) (SY.ext P4.ex) S4 (S2.ext P4.ex) (by cases b; exact Or.inl rfl; exact Or.inr rfl)) (by simp) ?_
        rintro w h5 xs5 ⟨rfl, rfl⟩
        refine o_0k (pcT := 111) (pcF := 100) d_par_97 (by decide) (by decide) rfl (fun y0 => ?_) (fun y0 => ?_)
        rotate_left 1
        · exact absurd y0 (by decide)
        exact o_s (kk q z h5 (xs4 ++ sf5) hq P4 hz0 (List.mem_append_left _ z2) z3 hez) (fun y hy => List.mem_append_right _ hy) (by show 5 + 8 * j + 2 + 0 ≤ 7 + 8 * j; omega) (by show 25 + 56 * j + 12 + 0 ≤ 37 + 56 * j; omega)
      refine o_1a (pc' := 66) rfl d_par_64 (by first | exact One.u | exact One.val rfl | assumption | exact One.val (by assumption)) ?_
      refine o_d (pc' := 68) rfl d_par_66 rfl (by first | rfl | assumption) ?_
      refine o_4 (v := (2 : Int32)) (pc' := 69) rfl d_par_68 rfl ?_
      refine o_a (pc' := 71) rfl d_par_69 rfl ?_
      refine o_49 (pcT := 82) (pcF := 74) d_par_71 (by decide) (by decide) rfl (fun z1 => ?_) (fun z1 => ?_)
      · skip
        refine o_a (pc' := 84) rfl d_par_82 rfl ?_
        refine o_s (fin q (xs3 ++ sf2) ?_ (fun y hy => List.mem_append_right _ hy)) (fun y hy => hy) (by show 5 + 8 * j + 0 ≤ 5 + 8 * j; omega) (by show 25 + 56 * j + 0 ≤ 25 + 56 * j; omega)
        rcases hix with ⟨hx1, -⟩ | hx1
        · rw [Int32.lt_iff_toInt_lt] at z1
          omega
        · omega
      · have hx1 : c0.length = 2 + (o_r b).length := by
          rw [Int32.lt_iff_toInt_lt] at z1
          rcases hix with ⟨-, hx1⟩ | hx1
          · exact hx1
          · omega
        refine o_d (pc' := 76) rfl d_par_74 rfl (by first | rfl | assumption) ?_
        refine o_0p (M' := M_sl) d_par_76 (pc' := 79) rfl (o_0 hw 487 rfl) (tw_322 hw) (tw_324 hw) (tw_323 hw) (tw_2 hw) (tw_325 hw) (by decide) rfl (o_6 pd_13 rfl) rfl rfl (o_0q (by show 5 + 8 * j + 0 + 0 ≤ 43; omega)) (o_0q (by show 25 + 56 * j + 0 + 0 ≤ 293; omega)) T2.1 (c_sl K a0 hw g SC hg x0 c0 h3 T2) (by simp) ?_
        rintro w h4 xs4 ⟨rfl, rfl⟩
        refine o_o (pc' := 84) d_par_79 (by decide) (by decide) ?_
        exact o_s (fin _ (xs4 ++ (xs3 ++ sf2)) (by rw [o_0o _ (by omega), hx1]) (fun y hy => List.mem_append_right _ (List.mem_append_right _ hy))) (fun y hy => hy) (by show 5 + 8 * j + 0 + 0 ≤ 5 + 8 * j; omega) (by show 25 + 56 * j + 0 + 0 ≤ 25 + 56 * j; omega)
    have hok0 := hk it List.mem_cons_self
    rcases it with ⟨x0, _ | ⟨b, _ | v⟩, c0⟩
    · skip
      obtain ⟨S0, q0, hl0, hne⟩ := hok0
      refine head x0 c0 [] rfl S0 q0 (by omega) (fun h2 sf2 P2 => ?_)
      rw [if_neg hne]
      refine o_0k (pcT := 57) (pcF := 42) d_par_39 (by decide) (by decide) rfl (fun z => ?_) (fun z => ?_)
      · exact absurd rfl z
      have hR : e ≠ D → e ≠ ops := fun z => P2.lst.2.2.2.2.2.elim (fun y => absurd y.1 z) (fun y => o_19 y.2.ary P2.lst.1 (tw_61 hw))
      have hDo : D ≠ ops := by
        have q1 : @LE.le Nat _ h.size ops := P2.no
        have q2 : @LT.lt Nat _ D h.size := lD
        show @Ne Nat D ops
        omega
      refine o_1 (pc' := 43) rfl d_par_42 rfl (by first | rfl | assumption) ?_
      refine o_q (pc' := 46) rfl d_par_43 (tw_138 hw) Via.refl P2.arg.2.1 ?_
      refine o_d (pc' := 48) rfl d_par_46 rfl (by first | rfl | assumption) ?_
      refine o_0u (M' := M_add) d_par_48 (pc' := 53) rfl (o_0 hw 331 rfl) (tw_255 hw) (tw_256 hw) rfl (tw_257 hw) (tw_258 hw) (tw_259 hw) (tw_260 hw) (tw_165 hw) (tw_62 hw) (tw_261 hw) (by decide) rfl (o_6 pd_27 rfl) rfl rfl (o_0q (by show 5 + 8 * j + 1 ≤ 43; omega)) (o_0q (by show 25 + 56 * j + 10 ≤ 293; omega)) P2.lst.1 (c_add K a0 hw D SD ops e x0 os h2 (AD.ext P2.ex) P2.lst (Ins.of_exa (S0.ext P2.ex).1 (tw_285 hw)) (by omega) hR hDo) (o_1u P2.so P2.se) ?_
      rintro w h3 xs3 ⟨rfl, k3, e', he', L3⟩
      have P3 := P2.add hw (sf' := xs3 ++ sf2) k3 L3 (he'.imp id (fun y => ⟨List.mem_append_left _ y.1, y.2⟩)) (fun y hy => List.mem_append_right _ hy)
      refine o_28 (pc' := 54) rfl d_par_53 (by first | rfl | assumption) ?_
      refine o_o (pc' := 198) d_par_54 (by decide) (by decide) ?_
      refine o_s (turn (pre ++ [.ref x0]) i e' (os ++ [.ref x0]) s tb vs ent h3 (xs3 ++ sf2) (.val (.ref x0)) o5 o6 o7 (by rw [hx, List.flatMap_cons, List.append_assoc]; rfl) (by rw [List.length_append, List.length_singleton]; omega) P3 ?_ (by rw [List.length_append, List.length_singleton]; omega) hs0 (by omega) (One.val rfl) ho5 ho6 ho7 ?_) (fun y hy => hy) (by show 5 + 8 * j + 1 ≤ 11 + 8 * j; omega) (by show 25 + 56 * j + 10 ≤ 69 + 56 * j; omega)
      · intro c
        have hm : o_0t ((x0, none, c0) :: r) c = o_0t r c := o_5t (by simp [o_1o])
        have := hus c
        rw [hm] at this
        exact this
      · rintro v' h' ys ⟨w, rfl, e1, s1, tb1, vs1, ent1, q1, q2, q3, q4, q5, q6, q7⟩
        refine ⟨w, rfl, e1, s1, tb1, vs1, ent1, q1, q2, q3, ?_, q5, q6, fun b => ?_⟩
        · rw [List.append_assoc] at q4
          exact q4
        · have q8 := q7 b
          unfold o_3r at q8 ⊢
          rw [List.find?_cons_of_neg (by simp [o_1o])]
          exact q8
    · skip
      obtain ⟨S0, q0, hl0⟩ := hok0
      have hnl := (o_45 b).2
      have hcl : ([45, 45] ++ o_r b ++ [61] ++ c0).length = 2 + (o_r b).length + 1 + c0.length := by simp only [List.length_append, List.length_cons, List.length_nil] <;> omega
      have hlat := o_6m b q0
      refine mid x0 _ b [] rfl S0 hlat (by omega) (by omega) (by cases b <;> rfl) (by cases b <;> rfl) (Or.inr (o_6l b c0)) (fun q z h2 sf2 hq P2 hz hzs Z2 hez => ?_)
      rw [o_6l] at hq
      have T2 := S0.ext P2.ex
      have hdr : ([45, 45] ++ o_r b ++ [61] ++ c0).drop (2 + (o_r b).length + 1) = c0 := by cases b <;> rfl
      have hq1 : (q + 1).toInt = ((2 + (o_r b).length + 1 : Nat) : Int) := by rw [o_20 hq v1] <;> omega
      refine o_a (pc' := 113) rfl d_par_111 rfl ?_
      refine o_49 (pcT := 139) (pcF := 116) d_par_113 (by decide) (by decide) rfl (fun y1 => ?_) (fun y1 => ?_)
      rotate_left 1
      · rw [Int32.lt_iff_toInt_lt] at y1
        omega
      refine o_a (pc' := 141) rfl d_par_139 rfl ?_
      refine o_49 (pcT := 160) (pcF := 144) d_par_141 (by decide) (by decide) rfl (fun y2 => ?_) (fun y2 => ?_)
      rotate_left 1
      · rw [Int32.lt_iff_toInt_lt] at y2
        omega
      refine o_d (pc' := 162) rfl d_par_160 rfl (by first | rfl | assumption) ?_
      refine o_a (pc' := 164) rfl d_par_162 rfl ?_
      refine o_4 (v := (1 : Int32)) (pc' := 165) rfl d_par_164 rfl ?_
      refine o_0h (pc' := 166) rfl d_par_165 ?_
      refine o_0l (M' := M_sb1) d_par_166 (pc' := 169) rfl (o_0 hw 405 rfl) (o_0 hw 406 rfl) (o_0 hw 408 rfl) (o_0 hw 407 rfl) (tw_2 hw) (o_0 hw 409 rfl) (by decide) rfl (o_6 pd_47 rfl) rfl rfl (o_0q (by show 7 + 8 * j + 2 ≤ 43; omega)) (o_0q (by show 37 + 56 * j + 12 ≤ 293; omega)) T2.1 (c_sb1 K a0 hw hnw hEL hm2 rf hrf SF g SC hg x0 (q + 1) (2 + (o_r b).length + 1) _ h2 hq1 (by omega) (by omega) (by omega) hlat T2) (by simp) ?_
      rintro w h3 xs3 ⟨v, rfl, E3, V3, hv3⟩
      rw [hdr] at V3
      have Z3 := Z2.ext E3
      have hvz : v ≠ z := by
        by_cases hc1 : c0 = []
        · subst hc1
          exact o_8n Z3.str V3 Z3.2.1 (by cases b <;> decide)
        · have l1 : @LT.lt Nat _ z h2.size := Z2.str.lt
          have l3 : 0 < c0.length := List.length_pos_iff.mpr hc1
          have l2 := hv3 (by omega)
          have l4 : @LE.le Nat _ h2.size v := l2
          show @Ne Nat v z
          omega
      exact o_s (put (pre ++ [.ref x0]) i q x0 z v b c0 h3 (xs3 ++ sf2) (by rw [hx, List.flatMap_cons, List.append_assoc]; rfl) (by rw [List.length_append, List.length_singleton]; omega) rfl rfl rfl (P2.grow E3 (fun y hy => List.mem_append_right _ hy)) hz (List.mem_append_right _ hzs) Z3 hez V3 hvz) (fun y hy => hy) (by show 7 + 8 * j + 2 ≤ 9 + 8 * j; omega) (by show 37 + 56 * j + 12 ≤ 49 + 56 * j; omega)
    · skip
      obtain ⟨S0, V0⟩ := hok0
      have hnl := (o_45 b).2
      have hcl : ([45, 45] ++ o_r b).length = 2 + (o_r b).length := (o_45 b).1
      have hlat : o_n ([45, 45] ++ o_r b) = true := by cases b <;> decide
      have hv1 : xs[pre.length + 1]? = some (.ref v) := by
        rw [hx, List.flatMap_cons, List.getElem?_append_right (Nat.le_add_right _ _), Nat.add_sub_cancel_left]
        rfl
      have hlt := (List.getElem?_eq_some_iff.mp hv1).1
      refine mid x0 _ b [.ref v] rfl S0 hlat (by omega) (by omega) (by cases b <;> rfl) (by cases b <;> rfl) (Or.inl ⟨o_6u b, hcl⟩) (fun q z h2 sf2 hq P2 hz hzs Z2 hez => ?_)
      rw [o_6u] at hq
      have L2 := L.ext P2.ex
      have V2 := V0.ext P2.ex
      have hi1 : (i + 1).toInt = ((pre.length + 1 : Nat) : Int) := by rw [o_20 hi v1] <;> omega
      have hvz : v ≠ z := by
        have l1 : @LT.lt Nat _ v h.size := V0.lt
        have l2 : @LE.le Nat _ h.size z := hz
        show @Ne Nat v z
        omega
      refine o_a (pc' := 113) rfl d_par_111 rfl ?_
      refine o_49 (pcT := 139) (pcF := 116) d_par_113 (by decide) (by decide) rfl (fun y1 => ?_) (fun y1 => ?_)
      · exact absurd (by rw [Int32.lt_iff_toInt_lt]; omega) y1
      refine o_2 (pc' := 117) rfl d_par_116 rfl ?_
      refine o_4 (v := (1 : Int32)) (pc' := 118) rfl d_par_117 rfl ?_
      refine o_0h (pc' := 119) rfl d_par_118 ?_
      refine o_1 (pc' := 120) rfl d_par_119 rfl (by first | rfl | assumption) ?_
      refine o_2y (M' := M_asz) d_par_120 (pc' := 125) rfl (tw_158 hw) (tw_159 hw) (tw_160 hw) rfl (tw_161 hw) (tw_162 hw) (tw_163 hw) (tw_164 hw) (tw_165 hw) (tw_62 hw) (tw_166 hw) (by decide) rfl (o_6 pd_13 rfl) rfl rfl (o_0q (by show 7 + 8 * j + 0 ≤ 43; omega)) (o_0q (by show 37 + 56 * j + 0 ≤ 293; omega)) L2.1 (c_asz K a0 hw D l e0 xs h2 L2) (by simp) ?_
      rintro w h3 xs3 ⟨rfl, rfl⟩
      refine o_07 (pcT := 139) (pcF := 128) d_par_125 (by decide) (by decide) rfl (fun y2 => ?_) (fun y2 => ?_)
      rotate_left 1
      · have := congrArg Int32.toInt y2
        omega
      refine o_a (pc' := 141) rfl d_par_139 rfl ?_
      refine o_49 (pcT := 160) (pcF := 144) d_par_141 (by decide) (by decide) rfl (fun y3 => ?_) (fun y3 => ?_)
      · exact absurd (by rw [Int32.lt_iff_toInt_lt]; omega) y3
      refine o_1 (pc' := 145) rfl d_par_144 rfl (by first | rfl | assumption) ?_
      refine o_5e (z := (1 : Int32)) (pc' := 148) rfl d_par_145 rfl ?_
      refine o_2 (pc' := 149) rfl d_par_148 rfl ?_
      refine o_0u (M' := M_agt) d_par_149 (pc' := 154) rfl (tw_289 hw) (tw_290 hw) (tw_291 hw) rfl (tw_292 hw) (tw_293 hw) (tw_294 hw) (tw_295 hw) (tw_165 hw) (tw_62 hw) (tw_296 hw) (by decide) rfl (o_6 pd_17 rfl) rfl rfl (o_0q (by show 7 + 8 * j + 0 + 0 ≤ 43; omega)) (o_0q (by show 37 + 56 * j + 0 + 0 ≤ 293; omega)) L2.1 (c_agt K a0 hw D l e0 xs (i + 1) (pre.length + 1) (.ref v) _ L2 hi1 hv1 rfl) (by simp) ?_
      rintro w h4 xs4 ⟨rfl, rfl⟩
      refine o_24 (pc' := 157) rfl d_par_154 (tw_309 hw) (Ins.self V2.1) ?_
      refine o_o (pc' := 169) d_par_157 (by decide) (by decide) ?_
      exact o_s (put (pre ++ [.ref x0, .ref v]) (i + 1) q x0 z v b c0 h4 sf2 (by rw [hx, List.flatMap_cons, List.append_assoc]; rfl) (by rw [List.length_append, hi1]; simp only [List.length_cons, List.length_nil]; omega) rfl rfl rfl P2 hz hzs Z2 hez V2 hvz) (fun y hy => List.mem_append_right _ (List.mem_append_right _ hy)) (by show 7 + 8 * j + 0 + 0 ≤ 9 + 8 * j; omega) (by show 37 + 56 * j + 0 + 0 ≤ 49 + 56 * j; omega)
/-! the law's helper flag (behind words.wp, parse.wp's o_r) -/
def o_1t (b d : Bool) (q : Int32) : List Int32 := if d then [45, 45] ++ o_r b ++ [61] ++ o_1h (o_0y q) (o_1s q) (o_2p q) else [45, 45] ++ o_r b
theorem o_6n (b : Bool) : o_0i ([45, 45] ++ o_r b ++ [61]) := by
  intro c hc
  cases b
  · have hc : c ∈ ([45, 45, 120, 61] : List Int32) := hc
    simp only [List.mem_cons, List.not_mem_nil, or_false] at hc
    rcases hc with rfl | rfl | rfl | rfl <;> decide
  · have hc : c ∈ ([45, 45, 121, 122, 61] : List Int32) := hc
    simp only [List.mem_cons, List.not_mem_nil, or_false] at hc
    rcases hc with rfl | rfl | rfl | rfl | rfl <;> decide
theorem o_9h (b d : Bool) (q : Int32) : o_0i (o_1t b d q) ∧ o_n (o_1t b d q) = true ∧ (o_1t b d q).length ≤ 7 := by
  have t := o_4j (n := o_0y q) (o_52 q) (o_5j q)
  have f := o_45 b
  cases d
  · refine ⟨fun c hc => o_6n b c (List.mem_append_left _ hc), ?_, ?_⟩
    · show o_n ([45, 45] ++ o_r b) = true
      cases b <;> decide
    · show ([45, 45] ++ o_r b).length ≤ 7
      cases b <;> decide
  · refine ⟨fun c hc => ?_, o_6m b t.2.1, ?_⟩
    · rcases List.mem_append.mp hc with hc | hc
      · exact o_6n b c hc
      · exact t.1 c hc
    · show ([45, 45] ++ o_r b ++ [61] ++ o_1h (o_0y q) (o_1s q) (o_2p q)).length ≤ 7
      have e := f.1
      unfold o_9f at e
      rw [List.length_append, List.length_append, e, List.length_singleton]
      omega
theorem d_flg_0 : decode method_6_code 0 = .ok (.iload_n 2, 1) := by decide +kernel
theorem d_flg_1 : decode method_6_code 1 = .ok (.invokestatic 7, 3) := by decide +kernel
theorem d_flg_4 : decode method_6_code 4 = .ok (.istore_n 3, 1) := by decide +kernel
theorem d_flg_5 : decode method_6_code 5 = .ok (.iload_n 2, 1) := by decide +kernel
theorem d_flg_6 : decode method_6_code 6 = .ok (.sipush 255, 3) := by decide +kernel
theorem d_flg_9 : decode method_6_code 9 = .ok (.iand, 1) := by decide +kernel
theorem d_flg_10 : decode method_6_code 10 = .ok (.i2c, 1) := by decide +kernel
theorem d_flg_11 : decode method_6_code 11 = .ok (.istore 4, 2) := by decide +kernel
theorem d_flg_13 : decode method_6_code 13 = .ok (.iload_n 2, 1) := by decide +kernel
theorem d_flg_14 : decode method_6_code 14 = .ok (.bipush 8, 2) := by decide +kernel
theorem d_flg_16 : decode method_6_code 16 = .ok (.iushr, 1) := by decide +kernel
theorem d_flg_17 : decode method_6_code 17 = .ok (.sipush 255, 3) := by decide +kernel
theorem d_flg_20 : decode method_6_code 20 = .ok (.iand, 1) := by decide +kernel
theorem d_flg_21 : decode method_6_code 21 = .ok (.i2c, 1) := by decide +kernel
theorem d_flg_22 : decode method_6_code 22 = .ok (.istore 5, 2) := by decide +kernel
theorem d_flg_24 : decode method_6_code 24 = .ok (.iload_n 0, 1) := by decide +kernel
theorem d_flg_25 : decode method_6_code 25 = .ok (.ifCond .eq 7, 3) := by decide +kernel
theorem d_flg_28 : decode method_6_code 28 = .ok (.iconst 2, 1) := by decide +kernel
theorem d_flg_29 : decode method_6_code 29 = .ok (.goto 4, 3) := by decide +kernel
theorem d_flg_32 : decode method_6_code 32 = .ok (.iconst 1, 1) := by decide +kernel
theorem d_flg_33 : decode method_6_code 33 = .ok (.istore 6, 2) := by decide +kernel
theorem d_flg_35 : decode method_6_code 35 = .ok (.iconst 2, 1) := by decide +kernel
theorem d_flg_36 : decode method_6_code 36 = .ok (.iload 6, 2) := by decide +kernel
theorem d_flg_38 : decode method_6_code 38 = .ok (.iadd, 1) := by decide +kernel
theorem d_flg_39 : decode method_6_code 39 = .ok (.iload_n 1, 1) := by decide +kernel
theorem d_flg_40 : decode method_6_code 40 = .ok (.ifCond .eq 9, 3) := by decide +kernel
theorem d_flg_43 : decode method_6_code 43 = .ok (.iconst 1, 1) := by decide +kernel
theorem d_flg_44 : decode method_6_code 44 = .ok (.iload_n 3, 1) := by decide +kernel
theorem d_flg_45 : decode method_6_code 45 = .ok (.iadd, 1) := by decide +kernel
theorem d_flg_46 : decode method_6_code 46 = .ok (.goto 4, 3) := by decide +kernel
theorem d_flg_49 : decode method_6_code 49 = .ok (.iconst 0, 1) := by decide +kernel
theorem d_flg_50 : decode method_6_code 50 = .ok (.iadd, 1) := by decide +kernel
theorem d_flg_51 : decode method_6_code 51 = .ok (.istore 7, 2) := by decide +kernel
theorem d_flg_53 : decode method_6_code 53 = .ok (.iload 7, 2) := by decide +kernel
theorem d_flg_55 : decode method_6_code 55 = .ok (.newarray .char, 2) := by decide +kernel
theorem d_flg_57 : decode method_6_code 57 = .ok (.astore 8, 2) := by decide +kernel
theorem d_flg_59 : decode method_6_code 59 = .ok (.aload 8, 2) := by decide +kernel
theorem d_flg_61 : decode method_6_code 61 = .ok (.iconst 0, 1) := by decide +kernel
theorem d_flg_62 : decode method_6_code 62 = .ok (.bipush 45, 2) := by decide +kernel
theorem d_flg_64 : decode method_6_code 64 = .ok (.castore, 1) := by decide +kernel
theorem d_flg_65 : decode method_6_code 65 = .ok (.aload 8, 2) := by decide +kernel
theorem d_flg_67 : decode method_6_code 67 = .ok (.iconst 1, 1) := by decide +kernel
theorem d_flg_68 : decode method_6_code 68 = .ok (.bipush 45, 2) := by decide +kernel
theorem d_flg_70 : decode method_6_code 70 = .ok (.castore, 1) := by decide +kernel
theorem d_flg_71 : decode method_6_code 71 = .ok (.iload_n 0, 1) := by decide +kernel
theorem d_flg_72 : decode method_6_code 72 = .ok (.ifCond .eq 18, 3) := by decide +kernel
theorem d_flg_75 : decode method_6_code 75 = .ok (.aload 8, 2) := by decide +kernel
theorem d_flg_77 : decode method_6_code 77 = .ok (.iconst 2, 1) := by decide +kernel
theorem d_flg_78 : decode method_6_code 78 = .ok (.bipush 121, 2) := by decide +kernel
theorem d_flg_80 : decode method_6_code 80 = .ok (.castore, 1) := by decide +kernel
theorem d_flg_81 : decode method_6_code 81 = .ok (.aload 8, 2) := by decide +kernel
theorem d_flg_83 : decode method_6_code 83 = .ok (.iconst 3, 1) := by decide +kernel
theorem d_flg_84 : decode method_6_code 84 = .ok (.bipush 122, 2) := by decide +kernel
theorem d_flg_86 : decode method_6_code 86 = .ok (.castore, 1) := by decide +kernel
theorem d_flg_87 : decode method_6_code 87 = .ok (.goto 9, 3) := by decide +kernel
theorem d_flg_90 : decode method_6_code 90 = .ok (.aload 8, 2) := by decide +kernel
theorem d_flg_92 : decode method_6_code 92 = .ok (.iconst 2, 1) := by decide +kernel
theorem d_flg_93 : decode method_6_code 93 = .ok (.bipush 120, 2) := by decide +kernel
theorem d_flg_95 : decode method_6_code 95 = .ok (.castore, 1) := by decide +kernel
theorem d_flg_96 : decode method_6_code 96 = .ok (.iload_n 1, 1) := by decide +kernel
theorem d_flg_97 : decode method_6_code 97 = .ok (.ifCond .eq 39, 3) := by decide +kernel
theorem d_flg_100 : decode method_6_code 100 = .ok (.aload 8, 2) := by decide +kernel
theorem d_flg_102 : decode method_6_code 102 = .ok (.iconst 2, 1) := by decide +kernel
theorem d_flg_103 : decode method_6_code 103 = .ok (.iload 6, 2) := by decide +kernel
theorem d_flg_105 : decode method_6_code 105 = .ok (.iadd, 1) := by decide +kernel
theorem d_flg_106 : decode method_6_code 106 = .ok (.bipush 61, 2) := by decide +kernel
theorem d_flg_108 : decode method_6_code 108 = .ok (.castore, 1) := by decide +kernel
theorem d_flg_109 : decode method_6_code 109 = .ok (.iload_n 3, 1) := by decide +kernel
theorem d_flg_110 : decode method_6_code 110 = .ok (.ifCond .le 12, 3) := by decide +kernel
theorem d_flg_113 : decode method_6_code 113 = .ok (.aload 8, 2) := by decide +kernel
theorem d_flg_115 : decode method_6_code 115 = .ok (.iconst 3, 1) := by decide +kernel
theorem d_flg_116 : decode method_6_code 116 = .ok (.iload 6, 2) := by decide +kernel
theorem d_flg_118 : decode method_6_code 118 = .ok (.iadd, 1) := by decide +kernel
theorem d_flg_119 : decode method_6_code 119 = .ok (.iload 4, 2) := by decide +kernel
theorem d_flg_121 : decode method_6_code 121 = .ok (.castore, 1) := by decide +kernel
theorem d_flg_122 : decode method_6_code 122 = .ok (.iload_n 3, 1) := by decide +kernel
theorem d_flg_123 : decode method_6_code 123 = .ok (.iconst 1, 1) := by decide +kernel
theorem d_flg_124 : decode method_6_code 124 = .ok (.if_icmp .le 12, 3) := by decide +kernel
theorem d_flg_127 : decode method_6_code 127 = .ok (.aload 8, 2) := by decide +kernel
theorem d_flg_129 : decode method_6_code 129 = .ok (.iconst 4, 1) := by decide +kernel
theorem d_flg_130 : decode method_6_code 130 = .ok (.iload 6, 2) := by decide +kernel
theorem d_flg_132 : decode method_6_code 132 = .ok (.iadd, 1) := by decide +kernel
theorem d_flg_133 : decode method_6_code 133 = .ok (.iload 5, 2) := by decide +kernel
theorem d_flg_135 : decode method_6_code 135 = .ok (.castore, 1) := by decide +kernel
theorem d_flg_136 : decode method_6_code 136 = .ok (.new 13, 3) := by decide +kernel
theorem d_flg_139 : decode method_6_code 139 = .ok (.dup, 1) := by decide +kernel
theorem d_flg_140 : decode method_6_code 140 = .ok (.aload 8, 2) := by decide +kernel
theorem d_flg_142 : decode method_6_code 142 = .ok (.invokespecial 15, 3) := by decide +kernel
theorem d_flg_145 : decode method_6_code 145 = .ok (.areturn, 1) := by decide +kernel
abbrev M_flg : o_7 := (Yn28, method_6_code, 9, (Option.some (FieldType.object "java/lang/String")), ({ frames := 4, cells := 6, slots := 29, locals := 90 } : Room))
theorem pn_flg : plainFor (o_7.y M_flg) = true := plainFor_of_name (by first | (simp [plainName, overriddenIn]; done) | decide +kernel)
theorem c_flg (K : o_b) (a0 : Array Value) (hw : ∀ d ∈ tables_1, d.before a0 K.Z = true) (hnw : K.nw = false) (hEL : EW K.Z a0 K.E) (hme : ("java/lang/String", 7) ∈ K.E) (g : Int32) (SC : Sta K.Z K.Z.heap o_l "COMPACT_STRINGS" "Z" (.int g)) (hg : ¬ g = 0) (b d : Bool) (q : Int32) (h : Heap) :
    o_9 K M_flg #[.int (if b then 1 else 0), .int (if d then 1 else 0), .int q] [] h (o_c fun w h' _ => ∃ x : Addr, w = .ref x ∧ Ext h h' ∧ o_h K.Z h' x (o_1t b d q)) := by
  have r0 := o_52 q
  have r1 := o_5j q
  have ok := o_9h b d q
  have mk : ∀ (a : Addr) (h1 : Heap) (sf : List Addr) (vb vd vl c0 c1 nl tot : Int32), Ext h h1 → o_g K.Z h1 a .char (o_p (o_1t b d q)) → o_3 K M_flg (o_c fun w h' _ => ∃ x : Addr, w = .ref x ∧ Ext h h' ∧ o_h K.Z h' x (o_1t b d q)) 136 [.val (.int vb), .val (.int vd), .val (.int q), .val (.int vl), .val (.int c0), .val (.int c1), .val (.int nl), .val (.int tot), .val (.ref a)] [] sf h1 1 7 := by
    intro a h1 sf vb vd vl c0 c1 nl tot E1 A1
    have hl1 : @LE.le Nat _ h.size h1.size := E1.1
    refine o_29 (pc' := 139) rfl d_flg_136 (tw_26 hw) (tw_10 hw) (tw_2 hw) rfl rfl ?_
    intro x h2 ex E2 X2 D2
    refine o_0a (pc' := 140) rfl d_flg_139 (by first | rfl | assumption) ?_
    refine o_d (pc' := 142) rfl d_flg_140 rfl (by first | rfl | assumption) ?_
    refine o_35 (M' := M_si1) d_flg_142 (pc' := 145) rfl rfl rfl (tw_28 hw) (tw_29 hw) (tw_2 hw) (tw_30 hw) (by decide) rfl (o_6 pd_32 rfl) rfl rfl rfl rfl (c_si1 K a0 hw hnw hEL hme x a g (o_1t b d q) h2 ok.2.2 ok.1 (A1.ext E2) X2 (D2 (Or.inr (tw_23 hw)) (ty := .array .byte) (by decide)) (D2 (Or.inr (tw_25 hw)) (ty := .byte) (by decide)) SC hg ok.2.1) (by simp) ?_
    rintro h3 xs3 ⟨k3, S3⟩
    refine o_i rfl rfl (by first | rfl | assumption) d_flg_145 rfl rfl ?_
    exact ⟨x, rfl, o_t E1 (o_f E2 k3 (by intro z hz; cases List.mem_singleton.mp hz; omega)), S3⟩
  refine o_8a (M := M_flg) pn_flg rfl (by first | rfl | exact o_5 (by assumption)) (by first | rfl | exact o_5 (by assumption)) (by first | rfl | exact o_5 (by assumption)) ?_
  refine o_2 (pc' := 1) rfl d_flg_0 rfl ?_
  refine o_03 (M' := M_lln) d_flg_1 (pc' := 4) rfl (tw_48 hw) (tw_49 hw) (tw_46 hw) (tw_50 hw) (by decide) rfl (o_6 pd_33 rfl) rfl rfl rfl rfl (c_lln K a0 hw q h) (by simp) ?_
  rintro w h0 xs0 ⟨rfl, rfl⟩
  have v1 : (1 : Int32).toInt = 1 := rfl
  obtain ⟨L, hL, hL2, hcase⟩ : ∃ L : Nat, (o_0y q).toInt = L ∧ L ≤ 2 ∧ ((o_0y q = 0 ∧ L = 0) ∨ (o_0y q = 1 ∧ L = 1) ∨ (o_0y q = 2 ∧ L = 2)) := by
    rcases o_51 (XT.ushr q 16) with e | e | e
    · exact ⟨0, by rw [show o_0y q = 0 from e]; rfl, by omega, Or.inl ⟨e, rfl⟩⟩
    · exact ⟨1, by rw [show o_0y q = 1 from e]; rfl, by omega, Or.inr (Or.inl ⟨e, rfl⟩)⟩
    · exact ⟨2, by rw [show o_0y q = 2 from e]; rfl, by omega, Or.inr (Or.inr ⟨e, rfl⟩)⟩
  have hL1 : ((1 : Int32) + o_0y q).toInt = 1 + (L : Int) := by rw [o_20 v1 hL] <;> omega
  cases b
  · cases d
    · skip
      refine o_1i (pc' := 5) rfl d_flg_4 (by first | exact One.u | exact One.val rfl | assumption | exact One.val (by assumption)) ?_
      refine o_2 (pc' := 6) rfl d_flg_5 rfl ?_
      refine o_1f (v := (255 : Int32)) (pc' := 9) rfl d_flg_6 rfl ?_
      refine o_1l (pc' := 10) rfl d_flg_9 ?_
      refine o_3e (pc' := 11) rfl d_flg_10 ?_
      refine o_1j (pc' := 13) rfl d_flg_11 (by first | exact One.u | exact One.val rfl | assumption | exact One.val (by assumption)) ?_
      refine o_2 (pc' := 14) rfl d_flg_13 rfl ?_
      refine o_u (v := (8 : Int32)) (pc' := 16) rfl d_flg_14 rfl ?_
      refine o_2e (pc' := 17) rfl d_flg_16 ?_
      refine o_1f (v := (255 : Int32)) (pc' := 20) rfl d_flg_17 rfl ?_
      refine o_1l (pc' := 21) rfl d_flg_20 ?_
      refine o_3e (pc' := 22) rfl d_flg_21 ?_
      refine o_1a (pc' := 24) rfl d_flg_22 (by first | exact One.u | exact One.val rfl | assumption | exact One.val (by assumption)) ?_
      refine o_2 (pc' := 25) rfl d_flg_24 rfl ?_
      refine o_k (pcT := 32) (pcF := 28) d_flg_25 (by decide) (by decide) rfl (fun z1 => ?_) (fun z1 => ?_)
      rotate_left 1
      · first | exact absurd z1 (by decide) | exact absurd (by decide) z1
      refine o_4 (v := (1 : Int32)) (pc' := 33) rfl d_flg_32 rfl ?_
      refine o_1w (pc' := 35) rfl d_flg_33 (by first | exact One.u | exact One.val rfl | assumption | exact One.val (by assumption)) ?_
      refine o_4 (v := (2 : Int32)) (pc' := 36) rfl d_flg_35 rfl ?_
      refine o_a (pc' := 38) rfl d_flg_36 rfl ?_
      refine o_0h (pc' := 39) rfl d_flg_38 ?_
      refine o_2 (pc' := 40) rfl d_flg_39 rfl ?_
      refine o_k (pcT := 49) (pcF := 43) d_flg_40 (by decide) (by decide) rfl (fun z2 => ?_) (fun z2 => ?_)
      rotate_left 1
      · first | exact absurd z2 (by decide) | exact absurd (by decide) z2
      refine o_4 (v := (0 : Int32)) (pc' := 50) rfl d_flg_49 rfl ?_
      refine o_0h (pc' := 51) rfl d_flg_50 ?_
      refine o_3l (pc' := 53) rfl d_flg_51 (by first | exact One.u | exact One.val rfl | assumption | exact One.val (by assumption)) ?_
      refine o_a (pc' := 55) rfl d_flg_53 rfl ?_
      refine o_1p (pc' := 57) rfl d_flg_55 (tw_27 hw) (N := 3) (cap := 7) (by decide) (by decide) rfl rfl rfl ?_
      intro a h1 ea E0 A0
      refine o_3m (pc' := 59) rfl d_flg_57 (by first | exact One.u | exact One.val rfl | assumption | exact One.val (by assumption)) (by first | rfl | assumption) ?_
      refine o_d (pc' := 61) rfl d_flg_59 rfl (by first | rfl | assumption) ?_
      refine o_4 (v := (0 : Int32)) (pc' := 62) rfl d_flg_61 rfl ?_
      refine o_u (v := (45 : Int32)) (pc' := 64) rfl d_flg_62 rfl ?_
      refine o_05 (pc' := 65) rfl d_flg_64 A0 (i := 0) (by decide) (by simp) rfl (by simp) ?_
      intro h2 k1 A1
      have E1 := o_f E0 k1 (by intro z hz; cases List.mem_singleton.mp hz; omega)
      refine o_d (pc' := 67) rfl d_flg_65 rfl (by first | rfl | assumption) ?_
      refine o_4 (v := (1 : Int32)) (pc' := 68) rfl d_flg_67 rfl ?_
      refine o_u (v := (45 : Int32)) (pc' := 70) rfl d_flg_68 rfl ?_
      refine o_05 (pc' := 71) rfl d_flg_70 A1 (i := 1) (by decide) (by simp) rfl (by simp) ?_
      intro h3 k2 A2
      have E2 := o_f E1 k2 (by intro z hz; cases List.mem_singleton.mp hz; omega)
      refine o_2 (pc' := 72) rfl d_flg_71 rfl ?_
      refine o_k (pcT := 90) (pcF := 75) d_flg_72 (by decide) (by decide) rfl (fun z3 => ?_) (fun z3 => ?_)
      rotate_left 1
      · first | exact absurd z3 (by decide) | exact absurd (by decide) z3
      refine o_d (pc' := 92) rfl d_flg_90 rfl (by first | rfl | assumption) ?_
      refine o_4 (v := (2 : Int32)) (pc' := 93) rfl d_flg_92 rfl ?_
      refine o_u (v := (120 : Int32)) (pc' := 95) rfl d_flg_93 rfl ?_
      refine o_05 (pc' := 96) rfl d_flg_95 A2 (i := 2) (by decide) (by simp) rfl (by simp) ?_
      intro h4 k3 A3
      have E3 := o_f E2 k3 (by intro z hz; cases List.mem_singleton.mp hz; omega)
      refine o_2 (pc' := 97) rfl d_flg_96 rfl ?_
      refine o_k (pcT := 136) (pcF := 100) d_flg_97 (by decide) (by decide) rfl (fun z4 => ?_) (fun z4 => ?_)
      rotate_left 1
      · first | exact absurd z4 (by decide) | exact absurd (by decide) z4
      exact o_s (mk a h4 _ _ _ _ _ _ _ _ E3 A3) (fun z hz => hz) (by exact Nat.le_of_ble_eq_true rfl) (by exact Nat.le_of_ble_eq_true rfl)
    · skip
      refine o_1i (pc' := 5) rfl d_flg_4 (by first | exact One.u | exact One.val rfl | assumption | exact One.val (by assumption)) ?_
      refine o_2 (pc' := 6) rfl d_flg_5 rfl ?_
      refine o_1f (v := (255 : Int32)) (pc' := 9) rfl d_flg_6 rfl ?_
      refine o_1l (pc' := 10) rfl d_flg_9 ?_
      refine o_3e (pc' := 11) rfl d_flg_10 ?_
      refine o_1j (pc' := 13) rfl d_flg_11 (by first | exact One.u | exact One.val rfl | assumption | exact One.val (by assumption)) ?_
      refine o_2 (pc' := 14) rfl d_flg_13 rfl ?_
      refine o_u (v := (8 : Int32)) (pc' := 16) rfl d_flg_14 rfl ?_
      refine o_2e (pc' := 17) rfl d_flg_16 ?_
      refine o_1f (v := (255 : Int32)) (pc' := 20) rfl d_flg_17 rfl ?_
      refine o_1l (pc' := 21) rfl d_flg_20 ?_
      refine o_3e (pc' := 22) rfl d_flg_21 ?_
      refine o_1a (pc' := 24) rfl d_flg_22 (by first | exact One.u | exact One.val rfl | assumption | exact One.val (by assumption)) ?_
      refine o_2 (pc' := 25) rfl d_flg_24 rfl ?_
      refine o_k (pcT := 32) (pcF := 28) d_flg_25 (by decide) (by decide) rfl (fun z1 => ?_) (fun z1 => ?_)
      rotate_left 1
      · first | exact absurd z1 (by decide) | exact absurd (by decide) z1
      refine o_4 (v := (1 : Int32)) (pc' := 33) rfl d_flg_32 rfl ?_
      refine o_1w (pc' := 35) rfl d_flg_33 (by first | exact One.u | exact One.val rfl | assumption | exact One.val (by assumption)) ?_
      refine o_4 (v := (2 : Int32)) (pc' := 36) rfl d_flg_35 rfl ?_
      refine o_a (pc' := 38) rfl d_flg_36 rfl ?_
      refine o_0h (pc' := 39) rfl d_flg_38 ?_
      refine o_2 (pc' := 40) rfl d_flg_39 rfl ?_
      refine o_k (pcT := 49) (pcF := 43) d_flg_40 (by decide) (by decide) rfl (fun z2 => ?_) (fun z2 => ?_)
      · first | exact absurd z2 (by decide) | exact absurd (by decide) z2
      refine o_4 (v := (1 : Int32)) (pc' := 44) rfl d_flg_43 rfl ?_
      refine o_2 (pc' := 45) rfl d_flg_44 rfl ?_
      refine o_0h (pc' := 46) rfl d_flg_45 ?_
      refine o_o (pc' := 50) d_flg_46 (by decide) (by decide) ?_
      refine o_0h (pc' := 51) rfl d_flg_50 ?_
      refine o_3l (pc' := 53) rfl d_flg_51 (by first | exact One.u | exact One.val rfl | assumption | exact One.val (by assumption)) ?_
      refine o_a (pc' := 55) rfl d_flg_53 rfl ?_
      refine o_1p (pc' := 57) rfl d_flg_55 (tw_27 hw) (N := (4 + L)) (cap := 7) (by rw [o_20 (show ((2 : Int32) + 1).toInt = 3 from rfl) hL1] <;> omega) (by omega) rfl rfl rfl ?_
      intro a h1 ea E0 A0
      refine o_3m (pc' := 59) rfl d_flg_57 (by first | exact One.u | exact One.val rfl | assumption | exact One.val (by assumption)) (by first | rfl | assumption) ?_
      refine o_d (pc' := 61) rfl d_flg_59 rfl (by first | rfl | assumption) ?_
      refine o_4 (v := (0 : Int32)) (pc' := 62) rfl d_flg_61 rfl ?_
      refine o_u (v := (45 : Int32)) (pc' := 64) rfl d_flg_62 rfl ?_
      refine o_05 (pc' := 65) rfl d_flg_64 A0 (i := 0) (by decide) (by simp only [List.length_set, List.length_replicate]; omega) rfl (by simp) ?_
      intro h2 k1 A1
      have E1 := o_f E0 k1 (by intro z hz; cases List.mem_singleton.mp hz; omega)
      refine o_d (pc' := 67) rfl d_flg_65 rfl (by first | rfl | assumption) ?_
      refine o_4 (v := (1 : Int32)) (pc' := 68) rfl d_flg_67 rfl ?_
      refine o_u (v := (45 : Int32)) (pc' := 70) rfl d_flg_68 rfl ?_
      refine o_05 (pc' := 71) rfl d_flg_70 A1 (i := 1) (by decide) (by simp only [List.length_set, List.length_replicate]; omega) rfl (by simp) ?_
      intro h3 k2 A2
      have E2 := o_f E1 k2 (by intro z hz; cases List.mem_singleton.mp hz; omega)
      refine o_2 (pc' := 72) rfl d_flg_71 rfl ?_
      refine o_k (pcT := 90) (pcF := 75) d_flg_72 (by decide) (by decide) rfl (fun z3 => ?_) (fun z3 => ?_)
      rotate_left 1
      · first | exact absurd z3 (by decide) | exact absurd (by decide) z3
      refine o_d (pc' := 92) rfl d_flg_90 rfl (by first | rfl | assumption) ?_
      refine o_4 (v := (2 : Int32)) (pc' := 93) rfl d_flg_92 rfl ?_
      refine o_u (v := (120 : Int32)) (pc' := 95) rfl d_flg_93 rfl ?_
      refine o_05 (pc' := 96) rfl d_flg_95 A2 (i := 2) (by decide) (by simp only [List.length_set, List.length_replicate]; omega) rfl (by simp) ?_
      intro h4 k3 A3
      have E3 := o_f E2 k3 (by intro z hz; cases List.mem_singleton.mp hz; omega)
      refine o_2 (pc' := 97) rfl d_flg_96 rfl ?_
      refine o_k (pcT := 136) (pcF := 100) d_flg_97 (by decide) (by decide) rfl (fun z4 => ?_) (fun z4 => ?_)
      · first | exact absurd z4 (by decide) | exact absurd (by decide) z4
      refine o_d (pc' := 102) rfl d_flg_100 rfl (by first | rfl | assumption) ?_
      refine o_4 (v := (2 : Int32)) (pc' := 103) rfl d_flg_102 rfl ?_
      refine o_a (pc' := 105) rfl d_flg_103 rfl ?_
      refine o_0h (pc' := 106) rfl d_flg_105 ?_
      refine o_u (v := (61 : Int32)) (pc' := 108) rfl d_flg_106 rfl ?_
      refine o_05 (pc' := 109) rfl d_flg_108 A3 (i := 3) (by decide) (by simp only [List.length_set, List.length_replicate]; omega) rfl (by simp) ?_
      intro h5 k4 A4
      have E4 := o_f E3 k4 (by intro z hz; cases List.mem_singleton.mp hz; omega)
      rcases hcase with ⟨eL, rfl⟩ | ⟨eL, rfl⟩ | ⟨eL, rfl⟩
      · have eW : o_1t false true q = [45, 45, 120, 61] := by simp [o_1t, o_r, o_1h, eL]
        rw [eW] at mk ⊢
        rw [eL]
        refine o_2 (pc' := 110) rfl d_flg_109 rfl ?_
        refine o_2g (pcT := 122) (pcF := 113) d_flg_110 (by decide) (by decide) rfl (fun z5 => ?_) (fun z5 => ?_)
        rotate_left 1
        · first | exact absurd z5 (by decide) | exact absurd (by decide) z5
        refine o_2 (pc' := 123) rfl d_flg_122 rfl ?_
        refine o_4 (v := (1 : Int32)) (pc' := 124) rfl d_flg_123 rfl ?_
        refine o_1m (pcT := 136) (pcF := 127) d_flg_124 (by decide) (by decide) rfl (fun z6 => ?_) (fun z6 => ?_)
        rotate_left 1
        · first | exact absurd z6 (by decide) | exact absurd (by decide) z6
        exact o_s (mk a h5 _ _ _ _ _ _ _ _ E4 A4) (fun z hz => hz) (by exact Nat.le_of_ble_eq_true rfl) (by exact Nat.le_of_ble_eq_true rfl)
      · have eW : o_1t false true q = [45, 45, 120, 61, o_1s q] := by simp [o_1t, o_r, o_1h, eL]
        rw [eW] at mk ⊢
        rw [eL]
        refine o_2 (pc' := 110) rfl d_flg_109 rfl ?_
        refine o_2g (pcT := 122) (pcF := 113) d_flg_110 (by decide) (by decide) rfl (fun z5 => ?_) (fun z5 => ?_)
        · first | exact absurd z5 (by decide) | exact absurd (by decide) z5
        refine o_d (pc' := 115) rfl d_flg_113 rfl (by first | rfl | assumption) ?_
        refine o_4 (v := (3 : Int32)) (pc' := 116) rfl d_flg_115 rfl ?_
        refine o_a (pc' := 118) rfl d_flg_116 rfl ?_
        refine o_0h (pc' := 119) rfl d_flg_118 ?_
        refine o_a (pc' := 121) rfl d_flg_119 rfl ?_
        refine o_05 (pc' := 122) rfl d_flg_121 A4 (i := 4) (by decide) (by simp) (o_2b r0.1 (show (o_1s q).toInt < 65536 by omega)) (by simp) ?_
        intro h6 k5 A5
        have E5 := o_f E4 k5 (by intro z hz; cases List.mem_singleton.mp hz; omega)
        refine o_2 (pc' := 123) rfl d_flg_122 rfl ?_
        refine o_4 (v := (1 : Int32)) (pc' := 124) rfl d_flg_123 rfl ?_
        refine o_1m (pcT := 136) (pcF := 127) d_flg_124 (by decide) (by decide) rfl (fun z6 => ?_) (fun z6 => ?_)
        rotate_left 1
        · first | exact absurd z6 (by decide) | exact absurd (by decide) z6
        exact o_s (mk a h6 _ _ _ _ _ _ _ _ E5 A5) (fun z hz => hz) (by exact Nat.le_of_ble_eq_true rfl) (by exact Nat.le_of_ble_eq_true rfl)
      · have eW : o_1t false true q = [45, 45, 120, 61, o_1s q, o_2p q] := by simp [o_1t, o_r, o_1h, eL]
        rw [eW] at mk ⊢
        rw [eL]
        refine o_2 (pc' := 110) rfl d_flg_109 rfl ?_
        refine o_2g (pcT := 122) (pcF := 113) d_flg_110 (by decide) (by decide) rfl (fun z5 => ?_) (fun z5 => ?_)
        · first | exact absurd z5 (by decide) | exact absurd (by decide) z5
        refine o_d (pc' := 115) rfl d_flg_113 rfl (by first | rfl | assumption) ?_
        refine o_4 (v := (3 : Int32)) (pc' := 116) rfl d_flg_115 rfl ?_
        refine o_a (pc' := 118) rfl d_flg_116 rfl ?_
        refine o_0h (pc' := 119) rfl d_flg_118 ?_
        refine o_a (pc' := 121) rfl d_flg_119 rfl ?_
        refine o_05 (pc' := 122) rfl d_flg_121 A4 (i := 4) (by decide) (by simp) (o_2b r0.1 (show (o_1s q).toInt < 65536 by omega)) (by simp) ?_
        intro h6 k5 A5
        have E5 := o_f E4 k5 (by intro z hz; cases List.mem_singleton.mp hz; omega)
        refine o_2 (pc' := 123) rfl d_flg_122 rfl ?_
        refine o_4 (v := (1 : Int32)) (pc' := 124) rfl d_flg_123 rfl ?_
        refine o_1m (pcT := 136) (pcF := 127) d_flg_124 (by decide) (by decide) rfl (fun z6 => ?_) (fun z6 => ?_)
        · first | exact absurd z6 (by decide) | exact absurd (by decide) z6
        refine o_d (pc' := 129) rfl d_flg_127 rfl (by first | rfl | assumption) ?_
        refine o_4 (v := (4 : Int32)) (pc' := 130) rfl d_flg_129 rfl ?_
        refine o_a (pc' := 132) rfl d_flg_130 rfl ?_
        refine o_0h (pc' := 133) rfl d_flg_132 ?_
        refine o_a (pc' := 135) rfl d_flg_133 rfl ?_
        refine o_05 (pc' := 136) rfl d_flg_135 A5 (i := 5) (by decide) (by simp) (o_2b r1.1 (show (o_2p q).toInt < 65536 by omega)) (by simp) ?_
        intro h7 k6 A6
        have E6 := o_f E5 k6 (by intro z hz; cases List.mem_singleton.mp hz; omega)
        exact o_s (mk a h7 _ _ _ _ _ _ _ _ E6 A6) (fun z hz => hz) (by exact Nat.le_of_ble_eq_true rfl) (by exact Nat.le_of_ble_eq_true rfl)
  · cases d
    · skip
      refine o_1i (pc' := 5) rfl d_flg_4 (by first | exact One.u | exact One.val rfl | assumption | exact One.val (by assumption)) ?_
      refine o_2 (pc' := 6) rfl d_flg_5 rfl ?_
      refine o_1f (v := (255 : Int32)) (pc' := 9) rfl d_flg_6 rfl ?_
      refine o_1l (pc' := 10) rfl d_flg_9 ?_
      refine o_3e (pc' := 11) rfl d_flg_10 ?_
      refine o_1j (pc' := 13) rfl d_flg_11 (by first | exact One.u | exact One.val rfl | assumption | exact One.val (by assumption)) ?_
      refine o_2 (pc' := 14) rfl d_flg_13 rfl ?_
      refine o_u (v := (8 : Int32)) (pc' := 16) rfl d_flg_14 rfl ?_
      refine o_2e (pc' := 17) rfl d_flg_16 ?_
      refine o_1f (v := (255 : Int32)) (pc' := 20) rfl d_flg_17 rfl ?_
      refine o_1l (pc' := 21) rfl d_flg_20 ?_
      refine o_3e (pc' := 22) rfl d_flg_21 ?_
      refine o_1a (pc' := 24) rfl d_flg_22 (by first | exact One.u | exact One.val rfl | assumption | exact One.val (by assumption)) ?_
      refine o_2 (pc' := 25) rfl d_flg_24 rfl ?_
      refine o_k (pcT := 32) (pcF := 28) d_flg_25 (by decide) (by decide) rfl (fun z1 => ?_) (fun z1 => ?_)
      · first | exact absurd z1 (by decide) | exact absurd (by decide) z1
      refine o_4 (v := (2 : Int32)) (pc' := 29) rfl d_flg_28 rfl ?_
      refine o_o (pc' := 33) d_flg_29 (by decide) (by decide) ?_
      refine o_1w (pc' := 35) rfl d_flg_33 (by first | exact One.u | exact One.val rfl | assumption | exact One.val (by assumption)) ?_
      refine o_4 (v := (2 : Int32)) (pc' := 36) rfl d_flg_35 rfl ?_
      refine o_a (pc' := 38) rfl d_flg_36 rfl ?_
      refine o_0h (pc' := 39) rfl d_flg_38 ?_
      refine o_2 (pc' := 40) rfl d_flg_39 rfl ?_
      refine o_k (pcT := 49) (pcF := 43) d_flg_40 (by decide) (by decide) rfl (fun z2 => ?_) (fun z2 => ?_)
      rotate_left 1
      · first | exact absurd z2 (by decide) | exact absurd (by decide) z2
      refine o_4 (v := (0 : Int32)) (pc' := 50) rfl d_flg_49 rfl ?_
      refine o_0h (pc' := 51) rfl d_flg_50 ?_
      refine o_3l (pc' := 53) rfl d_flg_51 (by first | exact One.u | exact One.val rfl | assumption | exact One.val (by assumption)) ?_
      refine o_a (pc' := 55) rfl d_flg_53 rfl ?_
      refine o_1p (pc' := 57) rfl d_flg_55 (tw_27 hw) (N := 4) (cap := 7) (by decide) (by decide) rfl rfl rfl ?_
      intro a h1 ea E0 A0
      refine o_3m (pc' := 59) rfl d_flg_57 (by first | exact One.u | exact One.val rfl | assumption | exact One.val (by assumption)) (by first | rfl | assumption) ?_
      refine o_d (pc' := 61) rfl d_flg_59 rfl (by first | rfl | assumption) ?_
      refine o_4 (v := (0 : Int32)) (pc' := 62) rfl d_flg_61 rfl ?_
      refine o_u (v := (45 : Int32)) (pc' := 64) rfl d_flg_62 rfl ?_
      refine o_05 (pc' := 65) rfl d_flg_64 A0 (i := 0) (by decide) (by simp) rfl (by simp) ?_
      intro h2 k1 A1
      have E1 := o_f E0 k1 (by intro z hz; cases List.mem_singleton.mp hz; omega)
      refine o_d (pc' := 67) rfl d_flg_65 rfl (by first | rfl | assumption) ?_
      refine o_4 (v := (1 : Int32)) (pc' := 68) rfl d_flg_67 rfl ?_
      refine o_u (v := (45 : Int32)) (pc' := 70) rfl d_flg_68 rfl ?_
      refine o_05 (pc' := 71) rfl d_flg_70 A1 (i := 1) (by decide) (by simp) rfl (by simp) ?_
      intro h3 k2 A2
      have E2 := o_f E1 k2 (by intro z hz; cases List.mem_singleton.mp hz; omega)
      refine o_2 (pc' := 72) rfl d_flg_71 rfl ?_
      refine o_k (pcT := 90) (pcF := 75) d_flg_72 (by decide) (by decide) rfl (fun z3 => ?_) (fun z3 => ?_)
      · first | exact absurd z3 (by decide) | exact absurd (by decide) z3
      refine o_d (pc' := 77) rfl d_flg_75 rfl (by first | rfl | assumption) ?_
      refine o_4 (v := (2 : Int32)) (pc' := 78) rfl d_flg_77 rfl ?_
      refine o_u (v := (121 : Int32)) (pc' := 80) rfl d_flg_78 rfl ?_
      refine o_05 (pc' := 81) rfl d_flg_80 A2 (i := 2) (by decide) (by simp) rfl (by simp) ?_
      intro h4 k3 A3
      have E3 := o_f E2 k3 (by intro z hz; cases List.mem_singleton.mp hz; omega)
      refine o_d (pc' := 83) rfl d_flg_81 rfl (by first | rfl | assumption) ?_
      refine o_4 (v := (3 : Int32)) (pc' := 84) rfl d_flg_83 rfl ?_
      refine o_u (v := (122 : Int32)) (pc' := 86) rfl d_flg_84 rfl ?_
      refine o_05 (pc' := 87) rfl d_flg_86 A3 (i := 3) (by decide) (by simp) rfl (by simp) ?_
      intro h5 k4 A4
      have E4 := o_f E3 k4 (by intro z hz; cases List.mem_singleton.mp hz; omega)
      refine o_o (pc' := 96) d_flg_87 (by decide) (by decide) ?_
      refine o_2 (pc' := 97) rfl d_flg_96 rfl ?_
      refine o_k (pcT := 136) (pcF := 100) d_flg_97 (by decide) (by decide) rfl (fun z4 => ?_) (fun z4 => ?_)
      rotate_left 1
      · first | exact absurd z4 (by decide) | exact absurd (by decide) z4
      exact o_s (mk a h5 _ _ _ _ _ _ _ _ E4 A4) (fun z hz => hz) (by exact Nat.le_of_ble_eq_true rfl) (by exact Nat.le_of_ble_eq_true rfl)
    · skip
      refine o_1i (pc' := 5) rfl d_flg_4 (by first | exact One.u | exact One.val rfl | assumption | exact One.val (by assumption)) ?_
      refine o_2 (pc' := 6) rfl d_flg_5 rfl ?_
      refine o_1f (v := (255 : Int32)) (pc' := 9) rfl d_flg_6 rfl ?_
      refine o_1l (pc' := 10) rfl d_flg_9 ?_
      refine o_3e (pc' := 11) rfl d_flg_10 ?_
      refine o_1j (pc' := 13) rfl d_flg_11 (by first | exact One.u | exact One.val rfl | assumption | exact One.val (by assumption)) ?_
      refine o_2 (pc' := 14) rfl d_flg_13 rfl ?_
      refine o_u (v := (8 : Int32)) (pc' := 16) rfl d_flg_14 rfl ?_
      refine o_2e (pc' := 17) rfl d_flg_16 ?_
      refine o_1f (v := (255 : Int32)) (pc' := 20) rfl d_flg_17 rfl ?_
      refine o_1l (pc' := 21) rfl d_flg_20 ?_
      refine o_3e (pc' := 22) rfl d_flg_21 ?_
      refine o_1a (pc' := 24) rfl d_flg_22 (by first | exact One.u | exact One.val rfl | assumption | exact One.val (by assumption)) ?_
      refine o_2 (pc' := 25) rfl d_flg_24 rfl ?_
      refine o_k (pcT := 32) (pcF := 28) d_flg_25 (by decide) (by decide) rfl (fun z1 => ?_) (fun z1 => ?_)
      · first | exact absurd z1 (by decide) | exact absurd (by decide) z1
      refine o_4 (v := (2 : Int32)) (pc' := 29) rfl d_flg_28 rfl ?_
      refine o_o (pc' := 33) d_flg_29 (by decide) (by decide) ?_
      refine o_1w (pc' := 35) rfl d_flg_33 (by first | exact One.u | exact One.val rfl | assumption | exact One.val (by assumption)) ?_
      refine o_4 (v := (2 : Int32)) (pc' := 36) rfl d_flg_35 rfl ?_
      refine o_a (pc' := 38) rfl d_flg_36 rfl ?_
      refine o_0h (pc' := 39) rfl d_flg_38 ?_
      refine o_2 (pc' := 40) rfl d_flg_39 rfl ?_
      refine o_k (pcT := 49) (pcF := 43) d_flg_40 (by decide) (by decide) rfl (fun z2 => ?_) (fun z2 => ?_)
      · first | exact absurd z2 (by decide) | exact absurd (by decide) z2
      refine o_4 (v := (1 : Int32)) (pc' := 44) rfl d_flg_43 rfl ?_
      refine o_2 (pc' := 45) rfl d_flg_44 rfl ?_
      refine o_0h (pc' := 46) rfl d_flg_45 ?_
      refine o_o (pc' := 50) d_flg_46 (by decide) (by decide) ?_
      refine o_0h (pc' := 51) rfl d_flg_50 ?_
      refine o_3l (pc' := 53) rfl d_flg_51 (by first | exact One.u | exact One.val rfl | assumption | exact One.val (by assumption)) ?_
      refine o_a (pc' := 55) rfl d_flg_53 rfl ?_
      refine o_1p (pc' := 57) rfl d_flg_55 (tw_27 hw) (N := (5 + L)) (cap := 7) (by rw [o_20 (show ((2 : Int32) + 2).toInt = 4 from rfl) hL1] <;> omega) (by omega) rfl rfl rfl ?_
      intro a h1 ea E0 A0
      refine o_3m (pc' := 59) rfl d_flg_57 (by first | exact One.u | exact One.val rfl | assumption | exact One.val (by assumption)) (by first | rfl | assumption) ?_
      refine o_d (pc' := 61) rfl d_flg_59 rfl (by first | rfl | assumption) ?_
      refine o_4 (v := (0 : Int32)) (pc' := 62) rfl d_flg_61 rfl ?_
      refine o_u (v := (45 : Int32)) (pc' := 64) rfl d_flg_62 rfl ?_
      refine o_05 (pc' := 65) rfl d_flg_64 A0 (i := 0) (by decide) (by simp only [List.length_set, List.length_replicate]; omega) rfl (by simp) ?_
      intro h2 k1 A1
      have E1 := o_f E0 k1 (by intro z hz; cases List.mem_singleton.mp hz; omega)
      refine o_d (pc' := 67) rfl d_flg_65 rfl (by first | rfl | assumption) ?_
      refine o_4 (v := (1 : Int32)) (pc' := 68) rfl d_flg_67 rfl ?_
      refine o_u (v := (45 : Int32)) (pc' := 70) rfl d_flg_68 rfl ?_
      refine o_05 (pc' := 71) rfl d_flg_70 A1 (i := 1) (by decide) (by simp only [List.length_set, List.length_replicate]; omega) rfl (by simp) ?_
      intro h3 k2 A2
      have E2 := o_f E1 k2 (by intro z hz; cases List.mem_singleton.mp hz; omega)
      refine o_2 (pc' := 72) rfl d_flg_71 rfl ?_
      refine o_k (pcT := 90) (pcF := 75) d_flg_72 (by decide) (by decide) rfl (fun z3 => ?_) (fun z3 => ?_)
      · first | exact absurd z3 (by decide) | exact absurd (by decide) z3
      refine o_d (pc' := 77) rfl d_flg_75 rfl (by first | rfl | assumption) ?_
      refine o_4 (v := (2 : Int32)) (pc' := 78) rfl d_flg_77 rfl ?_
      refine o_u (v := (121 : Int32)) (pc' := 80) rfl d_flg_78 rfl ?_
      refine o_05 (pc' := 81) rfl d_flg_80 A2 (i := 2) (by decide) (by simp only [List.length_set, List.length_replicate]; omega) rfl (by simp) ?_
      intro h4 k3 A3
      have E3 := o_f E2 k3 (by intro z hz; cases List.mem_singleton.mp hz; omega)
      refine o_d (pc' := 83) rfl d_flg_81 rfl (by first | rfl | assumption) ?_
      refine o_4 (v := (3 : Int32)) (pc' := 84) rfl d_flg_83 rfl ?_
      refine o_u (v := (122 : Int32)) (pc' := 86) rfl d_flg_84 rfl ?_
      refine o_05 (pc' := 87) rfl d_flg_86 A3 (i := 3) (by decide) (by simp only [List.length_set, List.length_replicate]; omega) rfl (by simp) ?_
      intro h5 k4 A4
      have E4 := o_f E3 k4 (by intro z hz; cases List.mem_singleton.mp hz; omega)
      refine o_o (pc' := 96) d_flg_87 (by decide) (by decide) ?_
      refine o_2 (pc' := 97) rfl d_flg_96 rfl ?_
      refine o_k (pcT := 136) (pcF := 100) d_flg_97 (by decide) (by decide) rfl (fun z4 => ?_) (fun z4 => ?_)
      · first | exact absurd z4 (by decide) | exact absurd (by decide) z4
      refine o_d (pc' := 102) rfl d_flg_100 rfl (by first | rfl | assumption) ?_
      refine o_4 (v := (2 : Int32)) (pc' := 103) rfl d_flg_102 rfl ?_
      refine o_a (pc' := 105) rfl d_flg_103 rfl ?_
      refine o_0h (pc' := 106) rfl d_flg_105 ?_
      refine o_u (v := (61 : Int32)) (pc' := 108) rfl d_flg_106 rfl ?_
      refine o_05 (pc' := 109) rfl d_flg_108 A4 (i := 4) (by decide) (by simp only [List.length_set, List.length_replicate]; omega) rfl (by simp) ?_
      intro h6 k5 A5
      have E5 := o_f E4 k5 (by intro z hz; cases List.mem_singleton.mp hz; omega)
      rcases hcase with ⟨eL, rfl⟩ | ⟨eL, rfl⟩ | ⟨eL, rfl⟩
      · have eW : o_1t true true q = [45, 45, 121, 122, 61] := by simp [o_1t, o_r, o_1h, eL]
        rw [eW] at mk ⊢
        rw [eL]
        refine o_2 (pc' := 110) rfl d_flg_109 rfl ?_
        refine o_2g (pcT := 122) (pcF := 113) d_flg_110 (by decide) (by decide) rfl (fun z5 => ?_) (fun z5 => ?_)
        rotate_left 1
        · first | exact absurd z5 (by decide) | exact absurd (by decide) z5
        refine o_2 (pc' := 123) rfl d_flg_122 rfl ?_
        refine o_4 (v := (1 : Int32)) (pc' := 124) rfl d_flg_123 rfl ?_
        refine o_1m (pcT := 136) (pcF := 127) d_flg_124 (by decide) (by decide) rfl (fun z6 => ?_) (fun z6 => ?_)
        rotate_left 1
        · first | exact absurd z6 (by decide) | exact absurd (by decide) z6
        exact o_s (mk a h6 _ _ _ _ _ _ _ _ E5 A5) (fun z hz => hz) (by exact Nat.le_of_ble_eq_true rfl) (by exact Nat.le_of_ble_eq_true rfl)
      · have eW : o_1t true true q = [45, 45, 121, 122, 61, o_1s q] := by simp [o_1t, o_r, o_1h, eL]
        rw [eW] at mk ⊢
        rw [eL]
        refine o_2 (pc' := 110) rfl d_flg_109 rfl ?_
        refine o_2g (pcT := 122) (pcF := 113) d_flg_110 (by decide) (by decide) rfl (fun z5 => ?_) (fun z5 => ?_)
        · first | exact absurd z5 (by decide) | exact absurd (by decide) z5
        refine o_d (pc' := 115) rfl d_flg_113 rfl (by first | rfl | assumption) ?_
        refine o_4 (v := (3 : Int32)) (pc' := 116) rfl d_flg_115 rfl ?_
        refine o_a (pc' := 118) rfl d_flg_116 rfl ?_
        refine o_0h (pc' := 119) rfl d_flg_118 ?_
        refine o_a (pc' := 121) rfl d_flg_119 rfl ?_
        refine o_05 (pc' := 122) rfl d_flg_121 A5 (i := 5) (by decide) (by simp) (o_2b r0.1 (show (o_1s q).toInt < 65536 by omega)) (by simp) ?_
        intro h7 k6 A6
        have E6 := o_f E5 k6 (by intro z hz; cases List.mem_singleton.mp hz; omega)
        refine o_2 (pc' := 123) rfl d_flg_122 rfl ?_
        refine o_4 (v := (1 : Int32)) (pc' := 124) rfl d_flg_123 rfl ?_
        refine o_1m (pcT := 136) (pcF := 127) d_flg_124 (by decide) (by decide) rfl (fun z6 => ?_) (fun z6 => ?_)
        rotate_left 1
        · first | exact absurd z6 (by decide) | exact absurd (by decide) z6
        exact o_s (mk a h7 _ _ _ _ _ _ _ _ E6 A6) (fun z hz => hz) (by exact Nat.le_of_ble_eq_true rfl) (by exact Nat.le_of_ble_eq_true rfl)
      · have eW : o_1t true true q = [45, 45, 121, 122, 61, o_1s q, o_2p q] := by simp [o_1t, o_r, o_1h, eL]
        rw [eW] at mk ⊢
        rw [eL]
        refine o_2 (pc' := 110) rfl d_flg_109 rfl ?_
        refine o_2g (pcT := 122) (pcF := 113) d_flg_110 (by decide) (by decide) rfl (fun z5 => ?_) (fun z5 => ?_)
        · first | exact absurd z5 (by decide) | exact absurd (by decide) z5
        refine o_d (pc' := 115) rfl d_flg_113 rfl (by first | rfl | assumption) ?_
        refine o_4 (v := (3 : Int32)) (pc' := 116) rfl d_flg_115 rfl ?_
        refine o_a (pc' := 118) rfl d_flg_116 rfl ?_
        refine o_0h (pc' := 119) rfl d_flg_118 ?_
        refine o_a (pc' := 121) rfl d_flg_119 rfl ?_
        refine o_05 (pc' := 122) rfl d_flg_121 A5 (i := 5) (by decide) (by simp) (o_2b r0.1 (show (o_1s q).toInt < 65536 by omega)) (by simp) ?_
        intro h7 k6 A6
        have E6 := o_f E5 k6 (by intro z hz; cases List.mem_singleton.mp hz; omega)
        refine o_2 (pc' := 123) rfl d_flg_122 rfl ?_
        refine o_4 (v := (1 : Int32)) (pc' := 124) rfl d_flg_123 rfl ?_
        refine o_1m (pcT := 136) (pcF := 127) d_flg_124 (by decide) (by decide) rfl (fun z6 => ?_) (fun z6 => ?_)
        · first | exact absurd z6 (by decide) | exact absurd (by decide) z6
        refine o_d (pc' := 129) rfl d_flg_127 rfl (by first | rfl | assumption) ?_
        refine o_4 (v := (4 : Int32)) (pc' := 130) rfl d_flg_129 rfl ?_
        refine o_a (pc' := 132) rfl d_flg_130 rfl ?_
        refine o_0h (pc' := 133) rfl d_flg_132 ?_
        refine o_a (pc' := 135) rfl d_flg_133 rfl ?_
        refine o_05 (pc' := 136) rfl d_flg_135 A6 (i := 6) (by decide) (by simp) (o_2b r1.1 (show (o_2p q).toInt < 65536 by omega)) (by simp) ?_
        intro h8 k7 A7
        have E7 := o_f E6 k7 (by intro z hz; cases List.mem_singleton.mp hz; omega)
        exact o_s (mk a h8 _ _ _ _ _ _ _ _ E7 A7) (fun z hz => hz) (by exact Nat.le_of_ble_eq_true rfl) (by exact Nat.le_of_ble_eq_true rfl)
/-! List.copyOf of an ArrayList of at most three, and the immutable lists -/
section CopyR
variable {K : o_b} {M M' : o_7} {Q : o_0g} {pc pc' : Nat} {Ls : List Slot} {St rest : List Value} {sf sf' : List Addr} {h h' : Heap} {cs sl : Nat} {a0 : Array Value} {Z : State} {a b : Addr} {C : String} {vs vd : List Value}
def o_3h (Z : State) (C : String) (m : Addr) : Prop := ∃ (c : ClassId) (k : Class), Z.vm.findClass C = some c ∧ Z.vm.classes[c]? = some k ∧ k.mirror = some m
theorem o_9r {index : Nat} {mr : Addr} (hp : pc + 3 = pc') (hd : decode M.b pc = .ok (.invokevirtual index, 3)) (w1 : (Jvm.Cond.methodLink M.y.cls index ⟨"java/lang/Object", "getClass", "()Ljava/lang/Class;"⟩).before a0 K.Z = true) (w2 : (Jvm.Cond.declares ⟨"java/lang/Object", "getClass", "()Ljava/lang/Class;"⟩).before a0 K.Z = true) (w3 : (Jvm.Cond.noSuperclass "java/lang/Object").before a0 K.Z = true) (w4 : (Jvm.Cond.selects C ⟨"java/lang/Object", "getClass", "()Ljava/lang/Class;"⟩ ⟨"java/lang/Object", "getClass", "()Ljava/lang/Class;"⟩).before a0 K.Z = true)
    (w5 : (Jvm.Cond.instanceMethod ⟨"java/lang/Object", "getClass", "()Ljava/lang/Class;"⟩).before a0 K.Z = true) (w6 : (Jvm.Cond.native ⟨"java/lang/Object", "getClass", "()Ljava/lang/Class;"⟩).before a0 K.Z = true) (hsz : Ls.length = M.mx) (hf : Nat.ble 1 M.R.frames = true) (hl : Nat.ble ((St.map fun v => v.category).sum + (nativeFrameWords "java/lang/Object" "getClass" 1 + 11)) M.R.locals = true) (E : Exa K.Z h a C) (G : o_3h K.Z C mr)
    (k : o_3 K M Q pc' Ls (.ref mr :: St) sf h cs sl) : o_3 K M Q pc Ls (.ref a :: St) sf h cs sl := by
  subst hp
  refine o_32 k fun p e s m args below meth c T locs cs' sl' B X eT hE => ?_
  have hZ := B.2.2.2.2.2.2.2.1
  obtain ⟨cB, kB, i1, i2, i3⟩ := isOf hZ eT E
  obtain ⟨cc, kc, m1, m2, m3⟩ := G
  rw [hZ.alike.findClass] at i1
  cases i1.symm.trans m1
  obtain ⟨k', q, ek⟩ := hZ.alike.2.2 _ _ m2
  have q2 := Nat.le_of_ble_eq_true hl
  obtain ⟨vm', X', st⟩ := X.getClassOf B.1 B.2.2.2.1 (mvT hZ w1) (mvT hZ w2) (nf_top (args := #[]) (mvT hZ w3)) (mvT hZ w4) (mvT hZ w5) (mvT hZ w6) (by rw [hZ.alike.findClass]; exact m1) i3 q (by rw [ek]; exact m3) (g := mkF m pc Ls.toArray (.ref a :: St)) rfl (by rw [B.2.2.1, ← hsz]; simp) rfl (hb B.2.1 hd) (Nat.le_of_ble_eq_true hf) (by show 2 * 0 + _ + _ ≤ _; omega)
  exact ⟨_, X', eT, st⟩
theorem o_94 {index : Nat} {mr : Addr} (hp : pc + 2 = pc') (hd : decode M.b pc = .ok (.ldc index, 2)) (w : (Jvm.Cond.classLink M.y.cls index C).before a0 K.Z = true) (G : o_3h K.Z C mr) (k : o_3 K M Q pc' Ls (.ref mr :: St) sf h cs sl) : o_3 K M Q pc Ls St sf h cs sl := by
  subst hp
  refine o_32 k fun p e s m args below meth c T locs cs' sl' B X eT hE => ?_
  have hZ := B.2.2.2.2.2.2.2.1
  obtain ⟨cc, kc, m1, m2, m3⟩ := G
  obtain ⟨k', q, ek⟩ := hZ.alike.2.2 _ _ m2
  have ev : (Term.mirror C).eval args s none [] s = some (.ref mr) := by
    have f1 : s.vm.findClass C = some cc := by rw [hZ.alike.findClass]; exact m1
    have f3 : k'.mirror = some mr := by rw [ek]; exact m3
    simp [Term.eval, f1, q, f3]
  obtain ⟨vm', X', st⟩ := X.ldcMirror B.1 B.2.2.2.1 (mv hZ w) ev (g := mkF m pc Ls.toArray St) rfl (hb B.2.1 hd)
  exact ⟨_, X', eT, st⟩
theorem o_5u {index : Nat} {R0 O n d host : String} {v : Value} (hp : pc + 3 = pc') (hd : decode M.b pc = .ok (.getstatic index, 3)) (w : (Jvm.Cond.fieldLinkNest M.y.cls index R0 n d host).before a0 K.Z = true) (via : Via K.Z R0 O n d) (F : Sta K.Z K.Z.heap O n d v) (k : o_3 K M Q pc' Ls (v :: St) sf h cs sl) : o_3 K M Q pc Ls St sf h cs sl := by
  subst hp
  exact o_32 k fun p e s m args below meth c T locs cs' sl' B X eT hE => getS2 X B.1 B.2.2.2.2.2.2.2.1 B.2.2.2.1 (Or.inr w) via eT (F.ext hE) (g := mkF m pc Ls.toArray St) rfl (hb B.2.1 hd)
theorem o_5z {index : Nat} {host : String} {v0 v1 : Value} {q' : Heap → List Addr → Prop} (hd : decode M.b pc = .ok (.invokespecial index, 3)) (hp : pc + 3 = pc') (hn : M'.y.name = "<init>") (hrt : M'.ret = none) (w1 : (Jvm.Cond.methodLinkNest M.y.cls index M'.y host).before a0 K.Z = true) (w2 : (Jvm.Cond.instanceMethod M'.y).before a0 K.Z = true) (w3 : (Jvm.Cond.initialized M'.y.cls).before a0 K.Z = true) (w4 : (Jvm.Cond.code M'.y M'.b M'.mx M'.ret).before a0 K.Z = true)
    (hy : M'.y.cls ≠ "java/lang/invoke/MethodHandle" ∧ M'.y.cls ≠ "java/lang/invoke/VarHandle") (hsz : Ls.length = M.mx) (hlen : ∀ sig, parseMethodDescriptor M'.y.desc = some sig → 2 = sig.parameters.length)
    (hf : Nat.ble (M'.R.frames + 1) M.R.frames = true) (hl : Nat.ble ((rest.map fun v => v.category).sum + (M'.mx + 11) + M'.R.locals) M.R.locals = true) (hc : Nat.ble (cs + M'.R.cells) M.R.cells = true) (hs : Nat.ble (sl + M'.R.slots) M.R.slots = true)
    (hM : o_9 K M' #[.ref a, v0, v1] sf' h (o_09 q')) (hsf : ∀ x ∈ sf', x ∈ sf) (k : ∀ h' xs, q' h' xs → o_3 K M Q pc' Ls rest (xs ++ sf) h' (cs + M'.R.cells) (sl + M'.R.slots)) : o_3 K M Q pc Ls (v1 :: v0 :: .ref a :: rest) sf h cs sl := by
  subst hp
  intro p e s vm0 k0 m args below meth c T locs cs' sl' B X hc' hs' eT N I
  have q1 := Nat.le_of_ble_eq_true hf
  have q2 := Nat.le_of_ble_eq_true hl
  have q3 := Nat.le_of_ble_eq_true hc
  have q4 := Nat.le_of_ble_eq_true hs
  have w4' : (Jvm.Cond.code M'.y M'.b M'.mx none).before a0 K.Z = true := by rw [← hrt]; exact w4
  have w1' : (Jvm.Cond.methodLinkNest M.y.cls index M'.y host).before args (s.setVm vm0) = true := (Cond.methodLinkNest_wide B.2.2.2.2.2.2.2.1 w1 :)
  obtain ⟨v, vm₁, B', -, X', hS, hg, P, st⟩ := X.specialBackNestS B.1 (y := M'.y) hn B.2.2.2.1 w1' (mv B.2.2.2.2.2.2.2.1 w2) (bytes := M'.b) (maxL := M'.mx) (mv B.2.2.2.2.2.2.2.1 w4') hy
    (o_47 (W := (rest.map fun v => v.category).sum) hM hsf B.2.2.2.2.2.2.2.1 B.2.2.2.2.2.2.2.2 I w4 w3 q1 q2) (g := mkF m pc Ls.toArray (v1 :: v0 :: .ref a :: rest)) rfl (by rw [B.2.2.1, ← hsz]; simp) (Steps.refl _) (a := a) (argsL := [v0, v1]) (rest := rest) hlen rfl (by show 2 * 0 + _ ≤ _; omega) (hb B.2.1 hd)
    (fun vm₁ _ => ⟨rfl, eT, by show cs' + _ ≤ _; omega, by show sl' + _ ≤ _; omega⟩)
  exact o_3p (fun v h' xs ⟨e, q⟩ => by subst e; exact k h' xs q) B hc' hs' eT N I X' hS hg P st
theorem o_83 : ∀ (us : List Value), (∀ v ∈ us, Sto Z h a v) → StoL Z h a us
  | [], _ => trivial
  | _ :: r, q => ⟨q _ List.mem_cons_self, o_83 r fun v hv => q v (List.mem_cons_of_mem _ hv)⟩
theorem o_6v {c : Cell} {ty : FieldType} {d : Value} (A : Arr Z h b c ty) (r1 : c.slots = vs.toArray) (r2 : vs.length < 2 ^ 31) (hf : ∀ v ∈ vs, fits ty v = true) : Arv Z h b c.cls ty vs.length.toInt32 vs d := by
  have e1 : (vs.length.toInt32).toInt = vs.length := o_4a r2
  have e2 : (vs.length.toInt32).toNatClampNeg = vs.length := by
    have : (vs.length.toInt32).toNatClampNeg = (vs.length.toInt32).toInt.toNat := rfl
    rw [this, e1]; rfl
  refine ⟨c, A, rfl, by rw [r1, e2]; simp, fun z => ?_, fun i hi => ?_, fun i hi => ?_⟩
  · rw [Int32.lt_iff_toInt_lt, e1] at z
    have : (0 : Int32).toInt = 0 := rfl
    omega
  · have hi' : i < vs.length := by rw [r1] at hi; simpa using hi
    rw [r1]; simp [hi']
  · have hi' : i < vs.length := by rw [r1] at hi; simpa using hi
    have : vs.getD i d = vs[i] := by simp [hi']
    rw [this]
    exact hf _ (List.getElem_mem hi')
theorem o_95 {index : Nat} {sp dp nn : Int32} {S D N : Nat}
    (hp : pc + 3 = pc') (hd : decode M.b pc = .ok (.invokestatic index, 3)) (w1 : (Jvm.Cond.methodLink M.y.cls index Jvm.Stand.acN).before a0 K.Z = true) (w2 : (Jvm.Cond.native Jvm.Stand.acN).before a0 K.Z = true) (w3 : (Jvm.Cond.static Jvm.Stand.acN).before a0 K.Z = true) (w4 : (Jvm.Cond.initialized "java/lang/System").before a0 K.Z = true)
    (hsz : Ls.length = M.mx) (hf : Nat.ble 1 M.R.frames = true) (hl : Nat.ble ((rest.map fun v => v.category).sum + (nativeFrameWords "java/lang/System" "arraycopy" 5 + 11)) M.R.locals = true)
    (A : o_02 K.Z h a C vs) (B : o_02 K.Z h b C vd) (fa : ∀ v ∈ vs, fits (.object C) v = true) (fb : ∀ v ∈ vd, fits (.object C) v = true) (hI : ∀ v ∈ (vs.drop S).take N, ∃ y, v = .ref y ∧ Ins K.Z h y C true) (hS : sp.toInt = S) (hD : dp.toInt = D) (hN : nn.toInt = N) (h4 : S + N ≤ vs.length) (h5 : D + N ≤ vd.length) (hbs : b ∈ sf)
    (k : ∀ h', Keep h h' [b] → o_02 K.Z h' b C (vd.take D ++ (vs.drop S).take N ++ vd.drop (D + N)) → o_3 K M Q pc' Ls rest sf h' cs sl) : o_3 K M Q pc Ls (.int nn :: .int dp :: .ref b :: .int sp :: .ref a :: rest) sf h cs sl := by
  subst hp
  intro p e s vm0 k0 m args below meth c T locs cs' sl' Bd X hc' hs' eT Fn I
  obtain ⟨i1, i2, i3, i4, i5, i6⟩ := I
  obtain ⟨ca, Ac, -, ra1, ra2, -⟩ := A
  obtain ⟨cb, Bc, Ob, rb1, rb2, rb3⟩ := B
  have Aa := o_6v (d := .int 0) Ac ra1 ra2 fa
  have Ab := o_6v (d := .int 0) Bc rb1 rb2 fb
  have nat : ∀ {x : Int32} {n : Nat}, x.toInt = n → x.toNatClampNeg = n ∧ ¬ x < 0 := fun {x n} q => by
    refine ⟨?_, fun z => ?_⟩
    · have : x.toNatClampNeg = x.toInt.toNat := rfl
      rw [this, q]; rfl
    · rw [Int32.lt_iff_toInt_lt, q] at z
      have : (0 : Int32).toInt = 0 := rfl
      omega
  have z1 := nat hS
  have z2 := nat hD
  have z3 := nat hN
  have z4 := nat (o_4a ra2)
  have z5 := nat (o_4a rb2)
  have hn := (i5 b hbs).1
  have SL : StoL K.Z h b ((List.range nn.toNatClampNeg).map fun i => vs.getD (sp.toNatClampNeg + i) (.int 0)) := o_83 _ (by
    intro v hv
    rw [z1.1, z3.1, o_6q h4] at hv
    obtain ⟨y, rfl, J⟩ := hI v hv
    exact Sto.of Bc Ob J)
  obtain ⟨T', h', L, X', e', N', kp, A', st⟩ := cpA X Bd.1 Bd.2.2.2.2.2.2.2.1 Bd.2.2.2.1 w1 w2 w3 w4 eT Aa Ab (Or.inr ⟨rfl, rfl, SL⟩) z1.2 z2.2 z3.2 (by omega) (by omega) rfl (by omega) Fn hn (g := mkF m pc Ls.toArray (.int nn :: .int dp :: .ref b :: .int sp :: .ref a :: rest)) rfl (by rw [Bd.2.2.1, ← hsz]; simp) rfl (hb Bd.2.1 hd) (Nat.le_of_ble_eq_true hf) (W := (rest.map fun v => v.category).sum) (by show 2 * 0 + _ ≤ _; omega) (Nat.le_of_ble_eq_true hl)
  rw [z1.1, z2.1, z3.1, o_6q h4] at A'
  have sk : ∀ x ∈ [b], Safe K.Z K.E vm0 h x := fun x hx => by cases List.mem_singleton.mp hx; exact (i5 b hbs).2.2
  have A2 : o_02 K.Z h' b C (vd.take D ++ (vs.drop S).take N ++ vd.drop (D + N)) := by
    have hl2 : (vd.take D ++ (vs.drop S).take N ++ vd.drop (D + N)).length = vd.length := by simp; omega
    obtain ⟨c, g1, g2, g3, g4, g5, -⟩ := A'
    refine ⟨c, g1, by rw [g2]; exact Ob, ?_, by rw [hl2]; exact rb2, rb3.keep kp⟩
    apply Array.ext
    · rw [g3, z5.1]; simp; omega
    · intro i hi1 hi2
      have := g5 i hi1
      have hi3 : i < (vd.take D ++ (vs.drop S).take N ++ vd.drop (D + N)).length := by rw [hl2]; rw [g3, z5.1] at hi1; exact hi1
      simp only [Array.getElem?_eq_getElem hi1, List.getD_eq_getElem?_getD, List.getElem?_eq_getElem hi3, Option.getD_some, Option.some.injEq] at this
      simpa using this
  obtain ⟨s₂, o, h1, r⟩ := k h' kp A2 p e s vm0 k0 m args below meth c T' L cs' sl' Bd X' hc' hs' e' N'
    ⟨i1, Nat.le_trans i2 kp.1, i3, i4.trans (CHr.keep kp sk i4.1), fun x hx => ⟨(i5 x hx).1, Nat.lt_of_lt_of_le (i5 x hx).2.1 kp.1, Safe.keep kp sk i4.1 (i5 x hx).2.2⟩, ⟨Nat.le_trans i6.1 kp.1, fun x cc q => kp.2.1 x cc (i6.2 x cc q) fun hm => by
      have h1 := (Array.getElem?_eq_some_iff.mp q).1
      cases List.mem_singleton.mp hm
      exact Nat.lt_irrefl _ (Nat.lt_of_lt_of_le h1 hn)⟩⟩
  exact ⟨s₂, o, st _ h1, r⟩
end CopyR
abbrev o_2q : String := "java/util/ImmutableCollections"
abbrev o_1y : String := "java/util/ImmutableCollections$List12"
abbrev o_3a : String := "java/util/ImmutableCollections$ListN"
def o_3i (Z : State) (h : Heap) (t x y : Addr) : Prop := Exa Z h t o_1y ∧ Fld Z h t o_1y "e0" o_0f (.ref x) ∧ Fld Z h t o_1y "e1" o_0f (.ref y)
theorem o_3i.ext {Z : State} {h h' : Heap} {t x y : Addr} (F : o_3i Z h t x y) (E : Ext h h') : o_3i Z h' t x y := ⟨F.1.ext E, F.2.1.ext E, F.2.2.ext E⟩
def o_3b (Z : State) (h : Heap) (t : Addr) (vs : List Value) : Prop := Exa Z h t o_3a ∧ ∃ e : Addr, Fld Z h t o_3a "elements" o_11 (.ref e) ∧ o_g Z h e (.object o_0m) vs
theorem o_3b.ext {Z : State} {h h' : Heap} {t : Addr} {vs : List Value} (F : o_3b Z h t vs) (E : Ext h h') : o_3b Z h' t vs := by
  obtain ⟨f1, e, f2, f3⟩ := F
  exact ⟨f1.ext E, e, f2.ext E, f3.ext E⟩
/-- an unchanging list of at most three; E0 stands for 'no second' -/
def o_54 (Z : State) (h : Heap) (E0 t : Addr) (os : List Value) : Prop := (∃ x : Addr, os = [.ref x] ∧ o_3i Z h t x E0) ∨ (∃ x y : Addr, os = [.ref x, .ref y] ∧ y ≠ E0 ∧ o_3i Z h t x y) ∨ ((os.length = 0 ∨ os.length = 3) ∧ o_3b Z h t os)
theorem o_54.ext {Z : State} {h h' : Heap} {E0 t : Addr} {os : List Value} (F : o_54 Z h E0 t os) (E : Ext h h') : o_54 Z h' E0 t os := by
  rcases F with ⟨x, e, F⟩ | ⟨x, y, e, n, F⟩ | ⟨n, F⟩
  · exact Or.inl ⟨x, e, F.ext E⟩
  · exact Or.inr (Or.inl ⟨x, y, e, n, F.ext E⟩)
  · exact Or.inr (Or.inr ⟨n, F.ext E⟩)
theorem d_lna_0 : decode Bn86 0 = .ok (.aload_n 0, 1) := by decide +kernel
theorem d_lna_1 : decode Bn86 1 = .ok (.invokespecial 1, 3) := by decide +kernel
theorem d_lna_4 : decode Bn86 4 = .ok (.return_, 1) := by decide +kernel
abbrev M_lna : o_7 := (Yn34, jdk_46_method_1_code, 1, (Option.none : Option FieldType), ({ frames := 3, cells := 0, slots := 0, locals := 36 } : Room))
theorem pn_lna : plainFor (o_7.y M_lna) = true := plainFor_of_name (by first | (simp [plainName, overriddenIn]; done) | decide +kernel)
theorem c_lna (K : o_b) (a0 : Array Value) (hw : ∀ d ∈ tables_1, d.before a0 K.Z = true) (t : Addr) (h : Heap) : o_9 K M_lna #[.ref t] [] h (o_09 fun h' _ => h' = h) := by
  refine o_x (M := M_lna) pn_lna rfl (by first | rfl | exact o_5 (by assumption)) ?_
  refine o_1 (pc' := 1) rfl d_lna_0 rfl (by first | rfl | assumption) ?_
  refine o_10 (M' := M_aic) d_lna_1 (pc' := 4) rfl rfl rfl (o_0 hw 529 rfl) (tw_102 hw) (tw_105 hw) (tw_106 hw) (by decide) rfl (o_6 pd_14 rfl) rfl rfl rfl rfl (c_aic K a0 hw t h) (by simp) ?_
  rintro h1 xs1 rfl
  refine o_0b rfl d_lna_4 rfl rfl ?_
  rfl
theorem o_69 {Z : State} {a0 : Array Value} (hw : ∀ d ∈ tables_1, d.before a0 Z = true) : RoadKit.slotOf Z o_1y "e0" o_0f ≠ RoadKit.slotOf Z o_1y "e1" o_0f := by
  have L1 : Laid Z a0 o_1y o_1y "e0" o_0f := Or.inr (tw_582 hw)
  have L2 : Laid Z a0 o_1y o_1y "e1" o_0f := Or.inr (tw_584 hw)
  exact slot_ne L1 L2 (by decide) (t := .object "java/lang/Object") (t' := .object "java/lang/Object") (by decide) (by decide)
theorem d_l1i_0 : decode Bn43 0 = .ok (.aload_n 0, 1) := by decide +kernel
theorem d_l1i_1 : decode Bn43 1 = .ok (.invokespecial 1, 3) := by decide +kernel
theorem d_l1i_4 : decode Bn43 4 = .ok (.aload_n 0, 1) := by decide +kernel
theorem d_l1i_5 : decode Bn43 5 = .ok (.aload_n 1, 1) := by decide +kernel
theorem d_l1i_6 : decode Bn43 6 = .ok (.invokestatic 7, 3) := by decide +kernel
theorem d_l1i_9 : decode Bn43 9 = .ok (.putfield 13, 3) := by decide +kernel
theorem d_l1i_12 : decode Bn43 12 = .ok (.aload_n 0, 1) := by decide +kernel
theorem d_l1i_13 : decode Bn43 13 = .ok (.getstatic 19, 3) := by decide +kernel
theorem d_l1i_16 : decode Bn43 16 = .ok (.putfield 24, 3) := by decide +kernel
theorem d_l1i_19 : decode Bn43 19 = .ok (.return_, 1) := by decide +kernel
abbrev M_l1i : o_7 := (Yn91, jdk_44_method_1_code, 2, (Option.none : Option FieldType), ({ frames := 4, cells := 0, slots := 0, locals := 50 } : Room))
theorem pn_l1i : plainFor (o_7.y M_l1i) = true := plainFor_of_name (by first | (simp [plainName, overriddenIn]; done) | decide +kernel)
theorem c_l1i (K : o_b) (a0 : Array Value) (hw : ∀ d ∈ tables_1, d.before a0 K.Z = true) (E0 : Addr) (S0 : Sta K.Z K.Z.heap o_2q "EMPTY" o_0f (.ref E0)) (t x : Addr) (h : Heap) (E : Exa K.Z h t o_1y) (F1 : Fld K.Z h t o_1y "e0" o_0f .null) (F2 : Fld K.Z h t o_1y "e1" o_0f .null) :
    o_9 K M_l1i #[.ref t, .ref x] [t] h (o_09 fun h' _ => Keep h h' [t] ∧ o_3i K.Z h' t x E0) := by
  have s12 := o_69 hw
  refine o_08 (M := M_l1i) pn_l1i rfl (by first | rfl | exact o_5 (by assumption)) (by first | rfl | exact o_5 (by assumption)) ?_
  refine o_1 (pc' := 1) rfl d_l1i_0 rfl (by first | rfl | assumption) ?_
  refine o_10 (M' := M_lna) d_l1i_1 (pc' := 4) rfl rfl rfl (tw_576 hw) (tw_524 hw) (tw_527 hw) (tw_528 hw) (by decide) rfl (o_6 pd_14 rfl) rfl rfl rfl rfl (c_lna K a0 hw t h) (by simp) ?_
  rintro h1 xs1 rfl
  refine o_1 (pc' := 5) rfl d_l1i_4 rfl (by first | rfl | assumption) ?_
  refine o_1 (pc' := 6) rfl d_l1i_5 rfl (by first | rfl | assumption) ?_
  refine o_03 (M' := M_rnn) d_l1i_6 (pc' := 9) rfl (tw_580 hw) (tw_110 hw) (tw_111 hw) (tw_112 hw) (by decide) rfl (o_6 pd_29 rfl) rfl rfl rfl rfl (c_rnn K a0 hw x h1) (by simp) ?_
  rintro w h2 xs2 ⟨rfl, rfl⟩
  refine o_06 (pc' := 12) rfl d_l1i_9 (tw_581 hw) Via.refl (Or.inr ⟨(tw_582 hw), rfl, rfl⟩) (tw_570 hw) (ty := (.object "java/lang/Object")) (by decide) rfl rfl F1 E (by simp) ?_
  intro h4 W4
  refine o_1 (pc' := 13) rfl d_l1i_12 rfl (by first | rfl | assumption) ?_
  refine o_5u (pc' := 16) rfl d_l1i_13 (tw_591 hw) Via.refl S0 ?_
  refine o_06 (pc' := 19) rfl d_l1i_16 (tw_583 hw) Via.refl (Or.inr ⟨(tw_584 hw), rfl, rfl⟩) (tw_570 hw) (ty := (.object "java/lang/Object")) (by decide) rfl rfl (F2.other W4 (Or.inr (Ne.symm s12))) (E.wr W4) (by simp) ?_
  intro h5 W5
  refine o_0b rfl d_l1i_19 rfl rfl ?_
  exact ⟨(Keep.of_wr W4).wr W5 (Or.inl (List.mem_singleton.mpr rfl)), (E.wr W4).wr W5, (F1.same W4).other W5 (Or.inr s12), (F2.other W4 (Or.inr (Ne.symm s12))).same W5⟩
theorem d_l2i_0 : decode Bn36 0 = .ok (.aload_n 0, 1) := by decide +kernel
theorem d_l2i_1 : decode Bn36 1 = .ok (.invokespecial 1, 3) := by decide +kernel
theorem d_l2i_4 : decode Bn36 4 = .ok (.aload_n 0, 1) := by decide +kernel
theorem d_l2i_5 : decode Bn36 5 = .ok (.aload_n 1, 1) := by decide +kernel
theorem d_l2i_6 : decode Bn36 6 = .ok (.invokestatic 7, 3) := by decide +kernel
theorem d_l2i_9 : decode Bn36 9 = .ok (.putfield 13, 3) := by decide +kernel
theorem d_l2i_12 : decode Bn36 12 = .ok (.aload_n 0, 1) := by decide +kernel
theorem d_l2i_13 : decode Bn36 13 = .ok (.aload_n 2, 1) := by decide +kernel
theorem d_l2i_14 : decode Bn36 14 = .ok (.invokestatic 7, 3) := by decide +kernel
theorem d_l2i_17 : decode Bn36 17 = .ok (.putfield 24, 3) := by decide +kernel
theorem d_l2i_20 : decode Bn36 20 = .ok (.return_, 1) := by decide +kernel
abbrev M_l2i : o_7 := (Yn92, jdk_44_method_2_code, 3, (Option.none : Option FieldType), ({ frames := 4, cells := 0, slots := 0, locals := 50 } : Room))
theorem pn_l2i : plainFor (o_7.y M_l2i) = true := plainFor_of_name (by first | (simp [plainName, overriddenIn]; done) | decide +kernel)
theorem c_l2i (K : o_b) (a0 : Array Value) (hw : ∀ d ∈ tables_1, d.before a0 K.Z = true) (t x y : Addr) (h : Heap) (E : Exa K.Z h t o_1y) (F1 : Fld K.Z h t o_1y "e0" o_0f .null) (F2 : Fld K.Z h t o_1y "e1" o_0f .null) :
    o_9 K M_l2i #[.ref t, .ref x, .ref y] [t] h (o_09 fun h' _ => Keep h h' [t] ∧ o_3i K.Z h' t x y) := by
  have s12 := o_69 hw
  refine o_1d (M := M_l2i) pn_l2i rfl (by first | rfl | exact o_5 (by assumption)) (by first | rfl | exact o_5 (by assumption)) (by first | rfl | exact o_5 (by assumption)) ?_
  refine o_1 (pc' := 1) rfl d_l2i_0 rfl (by first | rfl | assumption) ?_
  refine o_10 (M' := M_lna) d_l2i_1 (pc' := 4) rfl rfl rfl (tw_576 hw) (tw_524 hw) (tw_527 hw) (tw_528 hw) (by decide) rfl (o_6 pd_14 rfl) rfl rfl rfl rfl (c_lna K a0 hw t h) (by simp) ?_
  rintro h1 xs1 rfl
  refine o_1 (pc' := 5) rfl d_l2i_4 rfl (by first | rfl | assumption) ?_
  refine o_1 (pc' := 6) rfl d_l2i_5 rfl (by first | rfl | assumption) ?_
  refine o_03 (M' := M_rnn) d_l2i_6 (pc' := 9) rfl (tw_580 hw) (tw_110 hw) (tw_111 hw) (tw_112 hw) (by decide) rfl (o_6 pd_29 rfl) rfl rfl rfl rfl (c_rnn K a0 hw x h1) (by simp) ?_
  rintro w h2 xs2 ⟨rfl, rfl⟩
  refine o_06 (pc' := 12) rfl d_l2i_9 (tw_581 hw) Via.refl (Or.inr ⟨(tw_582 hw), rfl, rfl⟩) (tw_570 hw) (ty := (.object "java/lang/Object")) (by decide) rfl rfl F1 E (by simp) ?_
  intro h4 W4
  refine o_1 (pc' := 13) rfl d_l2i_12 rfl (by first | rfl | assumption) ?_
  refine o_1 (pc' := 14) rfl d_l2i_13 rfl (by first | rfl | assumption) ?_
  refine o_03 (M' := M_rnn) d_l2i_14 (pc' := 17) rfl (tw_580 hw) (tw_110 hw) (tw_111 hw) (tw_112 hw) (by decide) rfl (o_6 pd_29 rfl) rfl rfl rfl rfl (c_rnn K a0 hw y h4) (by simp) ?_
  rintro w h6 xs6 ⟨rfl, rfl⟩
  refine o_06 (pc' := 20) rfl d_l2i_17 (tw_583 hw) Via.refl (Or.inr ⟨(tw_584 hw), rfl, rfl⟩) (tw_570 hw) (ty := (.object "java/lang/Object")) (by decide) rfl rfl (F2.other W4 (Or.inr (Ne.symm s12))) (E.wr W4) (by simp) ?_
  intro h5 W5
  refine o_0b rfl d_l2i_20 rfl rfl ?_
  exact ⟨(Keep.of_wr W4).wr W5 (Or.inl (List.mem_singleton.mpr rfl)), (E.wr W4).wr W5, (F1.same W4).other W5 (Or.inr s12), (F2.other W4 (Or.inr (Ne.symm s12))).same W5⟩
theorem d_lni_0 : decode Bn48 0 = .ok (.aload_n 0, 1) := by decide +kernel
theorem d_lni_1 : decode Bn48 1 = .ok (.invokespecial 1, 3) := by decide +kernel
theorem d_lni_4 : decode Bn48 4 = .ok (.aload_n 0, 1) := by decide +kernel
theorem d_lni_5 : decode Bn48 5 = .ok (.aload_n 1, 1) := by decide +kernel
theorem d_lni_6 : decode Bn48 6 = .ok (.putfield 7, 3) := by decide +kernel
theorem d_lni_9 : decode Bn48 9 = .ok (.aload_n 0, 1) := by decide +kernel
theorem d_lni_10 : decode Bn48 10 = .ok (.iload_n 2, 1) := by decide +kernel
theorem d_lni_11 : decode Bn48 11 = .ok (.putfield 13, 3) := by decide +kernel
theorem d_lni_14 : decode Bn48 14 = .ok (.return_, 1) := by decide +kernel
abbrev M_lni : o_7 := (Yn93, jdk_45_method_1_code, 3, (Option.none : Option FieldType), ({ frames := 4, cells := 0, slots := 0, locals := 50 } : Room))
theorem pn_lni : plainFor (o_7.y M_lni) = true := plainFor_of_name (by first | (simp [plainName, overriddenIn]; done) | decide +kernel)
theorem c_lni (K : o_b) (a0 : Array Value) (hw : ∀ d ∈ tables_1, d.before a0 K.Z = true) (t e : Addr) (h : Heap) (E : Exa K.Z h t o_3a) (F1 : Fld K.Z h t o_3a "elements" o_11 .null) (F2 : Fld K.Z h t o_3a "allowNulls" "Z" (.int 0)) :
    o_9 K M_lni #[.ref t, .ref e, .int 0] [t] h (o_09 fun h' _ => Keep h h' [t] ∧ Exa K.Z h' t o_3a ∧ Fld K.Z h' t o_3a "elements" o_11 (.ref e)) := by
  have L1 : Laid K.Z a0 o_3a o_3a "elements" o_11 := Or.inr (tw_212 hw)
  have L2 : Laid K.Z a0 o_3a o_3a "allowNulls" "Z" := Or.inr (tw_533 hw)
  have s12 := slot_ne L1 L2 (by decide) (t := .array (.object "java/lang/Object")) (t' := .boolean) (by decide) (by decide)
  refine o_1d (M := M_lni) pn_lni rfl (by first | rfl | exact o_5 (by assumption)) (by first | rfl | exact o_5 (by assumption)) (by first | rfl | exact o_5 (by assumption)) ?_
  refine o_1 (pc' := 1) rfl d_lni_0 rfl (by first | rfl | assumption) ?_
  refine o_10 (M' := M_lna) d_lni_1 (pc' := 4) rfl rfl rfl (o_0 hw 523 rfl) (tw_524 hw) (tw_527 hw) (tw_528 hw) (by decide) rfl (o_6 pd_14 rfl) rfl rfl rfl rfl (c_lna K a0 hw t h) (by simp) ?_
  rintro h1 xs1 rfl
  refine o_1 (pc' := 5) rfl d_lni_4 rfl (by first | rfl | assumption) ?_
  refine o_1 (pc' := 6) rfl d_lni_5 rfl (by first | rfl | assumption) ?_
  refine o_06 (pc' := 9) rfl d_lni_6 (tw_211 hw) Via.refl (Or.inr ⟨(tw_212 hw), rfl, rfl⟩) (tw_518 hw) (ty := (.array (.object "java/lang/Object"))) (by decide) rfl rfl F1 E (by simp) ?_
  intro h4 W4
  refine o_1 (pc' := 10) rfl d_lni_9 rfl (by first | rfl | assumption) ?_
  refine o_2 (pc' := 11) rfl d_lni_10 rfl ?_
  refine o_06 (pc' := 14) rfl d_lni_11 (o_0 hw 532 rfl) Via.refl (Or.inr ⟨(tw_533 hw), rfl, rfl⟩) (tw_518 hw) (ty := .boolean) (by decide) rfl rfl (F2.other W4 (Or.inr (Ne.symm s12))) (E.wr W4) (by simp) ?_
  intro h5 W5
  refine o_0b rfl d_lni_14 rfl rfl ?_
  exact ⟨(Keep.of_wr W4).wr W5 (Or.inl (List.mem_singleton.mpr rfl)), (E.wr W4).wr W5, (F1.same W4).other W5 (Or.inr s12)⟩
theorem d_lfa_0 : decode Bn10 0 = .ok (.aload_n 0, 1) := by decide +kernel
theorem d_lfa_1 : decode Bn10 1 = .ok (.arraylength, 1) := by decide +kernel
theorem d_lfa_2 : decode Bn10 2 = .ok (.anewarray 2, 3) := by decide +kernel
theorem d_lfa_5 : decode Bn10 5 = .ok (.astore_n 1, 1) := by decide +kernel
theorem d_lfa_6 : decode Bn10 6 = .ok (.iconst 0, 1) := by decide +kernel
theorem d_lfa_7 : decode Bn10 7 = .ok (.istore_n 2, 1) := by decide +kernel
theorem d_lfa_8 : decode Bn10 8 = .ok (.iload_n 2, 1) := by decide +kernel
theorem d_lfa_9 : decode Bn10 9 = .ok (.aload_n 0, 1) := by decide +kernel
theorem d_lfa_10 : decode Bn10 10 = .ok (.arraylength, 1) := by decide +kernel
theorem d_lfa_11 : decode Bn10 11 = .ok (.if_icmp .ge 18, 3) := by decide +kernel
theorem d_lfa_14 : decode Bn10 14 = .ok (.aload_n 1, 1) := by decide +kernel
theorem d_lfa_15 : decode Bn10 15 = .ok (.iload_n 2, 1) := by decide +kernel
theorem d_lfa_16 : decode Bn10 16 = .ok (.aload_n 0, 1) := by decide +kernel
theorem d_lfa_17 : decode Bn10 17 = .ok (.iload_n 2, 1) := by decide +kernel
theorem d_lfa_18 : decode Bn10 18 = .ok (.aaload, 1) := by decide +kernel
theorem d_lfa_19 : decode Bn10 19 = .ok (.invokestatic 37, 3) := by decide +kernel
theorem d_lfa_22 : decode Bn10 22 = .ok (.aastore, 1) := by decide +kernel
theorem d_lfa_23 : decode Bn10 23 = .ok (.iinc 2 1, 3) := by decide +kernel
theorem d_lfa_26 : decode Bn10 26 = .ok (.goto (-18), 3) := by decide +kernel
theorem d_lfa_29 : decode Bn10 29 = .ok (.new 12, 3) := by decide +kernel
theorem d_lfa_32 : decode Bn10 32 = .ok (.dup, 1) := by decide +kernel
theorem d_lfa_33 : decode Bn10 33 = .ok (.aload_n 1, 1) := by decide +kernel
theorem d_lfa_34 : decode Bn10 34 = .ok (.iconst 0, 1) := by decide +kernel
theorem d_lfa_35 : decode Bn10 35 = .ok (.invokespecial 43, 3) := by decide +kernel
theorem d_lfa_38 : decode Bn10 38 = .ok (.areturn, 1) := by decide +kernel
abbrev M_lfa : o_7 := (Yn94, jdk_56_method_4_code, 3, (Option.some (FieldType.object "java/util/List")), ({ frames := 5, cells := 2, slots := 5, locals := 65 } : Room))
theorem pn_lfa : plainFor (o_7.y M_lfa) = true := plainFor_of_name (by first | (simp [plainName, overriddenIn]; done) | decide +kernel)
theorem c_lfa (K : o_b) (a0 : Array Value) (hw : ∀ d ∈ tables_1, d.before a0 K.Z = true) (r x y z : Addr) (h : Heap) (R : o_02 K.Z h r o_0m [.ref x, .ref y, .ref z]) (Ix : Ins K.Z h x o_0m true) (Iy : Ins K.Z h y o_0m true) (Iz : Ins K.Z h z o_0m true) :
    o_9 K M_lfa #[.ref r] [] h (o_c fun w h' _ => ∃ t : Addr, w = .ref t ∧ Ext h h' ∧ o_3b K.Z h' t [.ref x, .ref y, .ref z]) := by
  have hlr : @LT.lt Nat _ r h.size := R.lt
  refine o_85 (M := M_lfa) pn_lfa rfl (by first | rfl | exact o_5 (by assumption)) ?_
  refine o_1 (pc' := 1) rfl d_lfa_0 rfl (by first | rfl | assumption) ?_
  refine o_01 (z := 3) (pc' := 2) rfl d_lfa_1 R.ary rfl ?_
  refine o_37 (pc' := 5) rfl d_lfa_2 (o_0 hw 516 rfl) (tw_284 hw) (N := 3) (cap := 3) (by decide) (by decide) rfl rfl rfl ?_
  intro a h1 ea E1 A1
  have R1 := R.ext E1
  have nar : r ≠ a := by show @Ne Nat r a; show @Ne Nat r a; omega
  refine o_5n (pc' := 6) rfl d_lfa_5 (by first | exact One.u | exact One.val rfl | assumption | exact One.val (by assumption)) (by first | rfl | assumption) ?_
  refine o_4 (v := (0 : Int32)) (pc' := 7) rfl d_lfa_6 rfl ?_
  refine o_2s (pc' := 8) rfl d_lfa_7 (by first | exact One.u | exact One.val rfl | assumption | exact One.val (by assumption)) ?_
  refine o_2 (pc' := 9) rfl d_lfa_8 rfl ?_
  refine o_1 (pc' := 10) rfl d_lfa_9 rfl (by first | rfl | assumption) ?_
  refine o_01 (z := 3) (pc' := 11) rfl d_lfa_10 R1.ary rfl ?_
  refine o_14 (pcT := 29) (pcF := 14) d_lfa_11 (by decide) (by decide) rfl (fun q0 => ?_) (fun q0 => ?_)
  · exact absurd (by decide) q0
  refine o_1 (pc' := 15) rfl d_lfa_14 rfl (by first | rfl | assumption) ?_
  refine o_2 (pc' := 16) rfl d_lfa_15 rfl ?_
  refine o_1 (pc' := 17) rfl d_lfa_16 rfl (by first | rfl | assumption) ?_
  refine o_2 (pc' := 18) rfl d_lfa_17 rfl ?_
  refine o_15 (pc' := 19) rfl d_lfa_18 rfl R1.ary (i := 0) (by decide) rfl ?_
  refine o_03 (M' := M_rnn) d_lfa_19 (pc' := 22) rfl (tw_517 hw) (tw_110 hw) (tw_111 hw) (tw_112 hw) (by decide) rfl (o_6 pd_29 rfl) rfl rfl rfl rfl (c_rnn K a0 hw x h1) (by simp) ?_
  rintro w h2 xs2 ⟨rfl, rfl⟩
  refine o_2c (pc' := 23) rfl d_lfa_22 A1 (i := 0) (by decide) (by simp) (Ix.ext E1) (by simp) ?_
  intro h3 k3 A3
  have E3 := o_f E1 k3 (by intro z hz; cases List.mem_singleton.mp hz; omega)
  have R3 := R.ext E3
  refine o_4q (z := (1 : Int32)) (pc' := 26) rfl d_lfa_23 rfl ?_
  refine o_o (pc' := 8) d_lfa_26 (by decide) (by decide) ?_
  refine o_2 (pc' := 9) rfl d_lfa_8 rfl ?_
  refine o_1 (pc' := 10) rfl d_lfa_9 rfl (by first | rfl | assumption) ?_
  refine o_01 (z := 3) (pc' := 11) rfl d_lfa_10 R3.ary rfl ?_
  refine o_14 (pcT := 29) (pcF := 14) d_lfa_11 (by decide) (by decide) rfl (fun q1 => ?_) (fun q1 => ?_)
  · exact absurd (by decide) q1
  refine o_1 (pc' := 15) rfl d_lfa_14 rfl (by first | rfl | assumption) ?_
  refine o_2 (pc' := 16) rfl d_lfa_15 rfl ?_
  refine o_1 (pc' := 17) rfl d_lfa_16 rfl (by first | rfl | assumption) ?_
  refine o_2 (pc' := 18) rfl d_lfa_17 rfl ?_
  refine o_15 (pc' := 19) rfl d_lfa_18 rfl R3.ary (i := 1) (by decide) rfl ?_
  refine o_03 (M' := M_rnn) d_lfa_19 (pc' := 22) rfl (tw_517 hw) (tw_110 hw) (tw_111 hw) (tw_112 hw) (by decide) rfl (o_6 pd_29 rfl) rfl rfl rfl rfl (c_rnn K a0 hw y h3) (by simp) ?_
  rintro w h4 xs4 ⟨rfl, rfl⟩
  refine o_2c (pc' := 23) rfl d_lfa_22 A3 (i := 1) (by decide) (by simp) (Iy.ext E3) (by simp) ?_
  intro h5 k5 A5
  have E5 := o_f E3 k5 (by intro z hz; cases List.mem_singleton.mp hz; omega)
  have R5 := R.ext E5
  refine o_4q (z := (1 : Int32)) (pc' := 26) rfl d_lfa_23 rfl ?_
  refine o_o (pc' := 8) d_lfa_26 (by decide) (by decide) ?_
  refine o_2 (pc' := 9) rfl d_lfa_8 rfl ?_
  refine o_1 (pc' := 10) rfl d_lfa_9 rfl (by first | rfl | assumption) ?_
  refine o_01 (z := 3) (pc' := 11) rfl d_lfa_10 R5.ary rfl ?_
  refine o_14 (pcT := 29) (pcF := 14) d_lfa_11 (by decide) (by decide) rfl (fun q2 => ?_) (fun q2 => ?_)
  · exact absurd (by decide) q2
  refine o_1 (pc' := 15) rfl d_lfa_14 rfl (by first | rfl | assumption) ?_
  refine o_2 (pc' := 16) rfl d_lfa_15 rfl ?_
  refine o_1 (pc' := 17) rfl d_lfa_16 rfl (by first | rfl | assumption) ?_
  refine o_2 (pc' := 18) rfl d_lfa_17 rfl ?_
  refine o_15 (pc' := 19) rfl d_lfa_18 rfl R5.ary (i := 2) (by decide) rfl ?_
  refine o_03 (M' := M_rnn) d_lfa_19 (pc' := 22) rfl (tw_517 hw) (tw_110 hw) (tw_111 hw) (tw_112 hw) (by decide) rfl (o_6 pd_29 rfl) rfl rfl rfl rfl (c_rnn K a0 hw z h5) (by simp) ?_
  rintro w h6 xs6 ⟨rfl, rfl⟩
  refine o_2c (pc' := 23) rfl d_lfa_22 A5 (i := 2) (by decide) (by simp) (Iz.ext E5) (by simp) ?_
  intro h7 k7 A7
  have E7 := o_f E5 k7 (by intro z hz; cases List.mem_singleton.mp hz; omega)
  have R7 := R.ext E7
  refine o_4q (z := (1 : Int32)) (pc' := 26) rfl d_lfa_23 rfl ?_
  refine o_o (pc' := 8) d_lfa_26 (by decide) (by decide) ?_
  refine o_2 (pc' := 9) rfl d_lfa_8 rfl ?_
  refine o_1 (pc' := 10) rfl d_lfa_9 rfl (by first | rfl | assumption) ?_
  refine o_01 (z := 3) (pc' := 11) rfl d_lfa_10 R7.ary rfl ?_
  refine o_14 (pcT := 29) (pcF := 14) d_lfa_11 (by decide) (by decide) rfl (fun q3 => ?_) (fun q3 => ?_)
  rotate_left 1
  · exact absurd q3 (by decide)
  have hle : @LE.le Nat _ h.size h7.size := E7.1
  refine o_29 (pc' := 32) rfl d_lfa_29 (tw_189 hw) (tw_518 hw) (tw_209 hw) rfl rfl ?_
  intro t h8 et E8 X8 D8
  refine o_0a (pc' := 33) rfl d_lfa_32 (by first | rfl | assumption) ?_
  refine o_1 (pc' := 34) rfl d_lfa_33 rfl (by first | rfl | assumption) ?_
  refine o_4 (v := (0 : Int32)) (pc' := 35) rfl d_lfa_34 rfl ?_
  refine o_5z (M' := M_lni) d_lfa_35 (pc' := 38) rfl rfl rfl (o_0 hw 519 rfl) (o_0 hw 520 rfl) (tw_209 hw) (o_0 hw 522 rfl) (by decide) rfl (o_6 pd_48 rfl) rfl rfl rfl rfl (c_lni K a0 hw t a h8 X8 (D8 (Or.inr (tw_212 hw)) (ty := .array (.object "java/lang/Object")) (by decide)) (D8 (Or.inr (tw_533 hw)) (ty := .boolean) (by decide))) (by simp) ?_
  rintro h9 xs9 ⟨k9, X9, F9⟩
  have nat : a ∉ [t] := fun q => o_19 (A7.ext E8).ary X8 (tw_518 hw) (List.mem_singleton.mp q)
  refine o_i rfl rfl (by first | rfl | assumption) d_lfa_38 rfl rfl ?_
  exact ⟨t, rfl, o_t E7 (o_f E8 k9 (by intro z hz; cases List.mem_singleton.mp hz; omega)), X9, a, F9, (A7.ext E8).ary.keep k9 nat⟩
theorem d_lov_0 : decode Bn16 0 = .ok (.aload_n 0, 1) := by decide +kernel
theorem d_lov_1 : decode Bn16 1 = .ok (.arraylength, 1) := by decide +kernel
theorem d_lov_2 : decode Bn16 2 = .ok (.tableswitch 57 0 2 #[26, 32, 43], 26) := by decide +kernel
theorem d_lov_34 : decode Bn16 34 = .ok (.new 96, 3) := by decide +kernel
theorem d_lov_37 : decode Bn16 37 = .ok (.dup, 1) := by decide +kernel
theorem d_lov_38 : decode Bn16 38 = .ok (.aload_n 0, 1) := by decide +kernel
theorem d_lov_39 : decode Bn16 39 = .ok (.iconst 0, 1) := by decide +kernel
theorem d_lov_40 : decode Bn16 40 = .ok (.aaload, 1) := by decide +kernel
theorem d_lov_41 : decode Bn16 41 = .ok (.invokespecial 98, 3) := by decide +kernel
theorem d_lov_44 : decode Bn16 44 = .ok (.areturn, 1) := by decide +kernel
theorem d_lov_45 : decode Bn16 45 = .ok (.new 96, 3) := by decide +kernel
theorem d_lov_48 : decode Bn16 48 = .ok (.dup, 1) := by decide +kernel
theorem d_lov_49 : decode Bn16 49 = .ok (.aload_n 0, 1) := by decide +kernel
theorem d_lov_50 : decode Bn16 50 = .ok (.iconst 0, 1) := by decide +kernel
theorem d_lov_51 : decode Bn16 51 = .ok (.aaload, 1) := by decide +kernel
theorem d_lov_52 : decode Bn16 52 = .ok (.aload_n 0, 1) := by decide +kernel
theorem d_lov_53 : decode Bn16 53 = .ok (.iconst 1, 1) := by decide +kernel
theorem d_lov_54 : decode Bn16 54 = .ok (.aaload, 1) := by decide +kernel
theorem d_lov_55 : decode Bn16 55 = .ok (.invokespecial 100, 3) := by decide +kernel
theorem d_lov_58 : decode Bn16 58 = .ok (.areturn, 1) := by decide +kernel
theorem d_lov_59 : decode Bn16 59 = .ok (.aload_n 0, 1) := by decide +kernel
theorem d_lov_60 : decode Bn16 60 = .ok (.invokestatic 109, 3) := by decide +kernel
theorem d_lov_63 : decode Bn16 63 = .ok (.areturn, 1) := by decide +kernel
abbrev M_lov : o_7 := (Yn95, jdk_40_method_47_code, 2, (Option.some (FieldType.object "java/util/List")), ({ frames := 6, cells := 2, slots := 5, locals := 80 } : Room))
theorem pn_lov : plainFor (o_7.y M_lov) = true := plainFor_of_name (by first | (simp [plainName, overriddenIn]; done) | decide +kernel)
theorem c_lov (K : o_b) (a0 : Array Value) (hw : ∀ d ∈ tables_1, d.before a0 K.Z = true) (E0 : Addr) (S0 : Sta K.Z K.Z.heap o_2q "EMPTY" o_0f (.ref E0)) (r : Addr) (os : List Value) (h : Heap) (R : o_02 K.Z h r o_0m os) (hp : 0 < os.length) (hl : os.length ≤ 3) (hI : ∀ v ∈ os, ∃ y, v = .ref y ∧ y ≠ E0 ∧ Ins K.Z h y o_0m true) :
    o_9 K M_lov #[.ref r] [] h (o_c fun w h' _ => ∃ t : Addr, w = .ref t ∧ Ext h h' ∧ o_54 K.Z h' E0 t os) := by
  have Lw0 : Laid K.Z a0 o_1y o_1y "e0" o_0f := Or.inr (tw_582 hw)
  have Lw1 : Laid K.Z a0 o_1y o_1y "e1" o_0f := Or.inr (tw_584 hw)
  match os, hp, hl with
  | [v], _, _ =>
    obtain ⟨x, rfl, nx, Ix⟩ := hI v (by simp)
    refine o_3f (M := M_lov) pn_lov rfl (by first | rfl | exact o_5 (by assumption)) ?_
    refine o_1 (pc' := 1) rfl d_lov_0 rfl (by first | rfl | assumption) ?_
    refine o_01 (z := 1) (pc' := 2) rfl d_lov_1 R.ary rfl ?_
    refine o_5r (o := 32) (pc' := 34) d_lov_2 (by decide) (by decide) (by decide) (by decide) ?_
    refine o_29 (pc' := 37) rfl d_lov_34 (tw_569 hw) (tw_570 hw) (tw_571 hw) rfl rfl ?_
    intro t h1 et E1 X1 D1
    refine o_0a (pc' := 38) rfl d_lov_37 (by first | rfl | assumption) ?_
    refine o_1 (pc' := 39) rfl d_lov_38 rfl (by first | rfl | assumption) ?_
    refine o_4 (v := (0 : Int32)) (pc' := 40) rfl d_lov_39 rfl ?_
    refine o_15 (pc' := 41) rfl d_lov_40 rfl (R.ext E1).ary (i := 0) (by decide) rfl ?_
    refine o_35 (M' := M_l1i) d_lov_41 (pc' := 44) rfl rfl rfl (o_0 hw 597 rfl) (o_0 hw 598 rfl) (tw_571 hw) (o_0 hw 599 rfl) (by decide) rfl (o_6 pd_31 rfl) rfl rfl rfl rfl (c_l1i K a0 hw E0 S0 t x h1 X1 (D1 Lw0 (ty := .object "java/lang/Object") (by decide)) (D1 Lw1 (ty := .object "java/lang/Object") (by decide))) (by simp) ?_
    rintro h2 xs2 ⟨k2, T2⟩
    refine o_i rfl rfl (by first | rfl | assumption) d_lov_44 rfl rfl ?_
    exact ⟨t, rfl, o_f E1 k2 (by intro z hz; cases List.mem_singleton.mp hz; omega), Or.inl ⟨x, rfl, T2⟩⟩
  | [v, u], _, _ =>
    obtain ⟨x, rfl, nx, Ix⟩ := hI v (by simp)
    obtain ⟨y, rfl, ny, Iy⟩ := hI u (by simp)
    refine o_3f (M := M_lov) pn_lov rfl (by first | rfl | exact o_5 (by assumption)) ?_
    refine o_1 (pc' := 1) rfl d_lov_0 rfl (by first | rfl | assumption) ?_
    refine o_01 (z := 2) (pc' := 2) rfl d_lov_1 R.ary rfl ?_
    refine o_5r (o := 43) (pc' := 45) d_lov_2 (by decide) (by decide) (by decide) (by decide) ?_
    refine o_29 (pc' := 48) rfl d_lov_45 (tw_569 hw) (tw_570 hw) (tw_571 hw) rfl rfl ?_
    intro t h1 et E1 X1 D1
    refine o_0a (pc' := 49) rfl d_lov_48 (by first | rfl | assumption) ?_
    refine o_1 (pc' := 50) rfl d_lov_49 rfl (by first | rfl | assumption) ?_
    refine o_4 (v := (0 : Int32)) (pc' := 51) rfl d_lov_50 rfl ?_
    refine o_15 (pc' := 52) rfl d_lov_51 rfl (R.ext E1).ary (i := 0) (by decide) rfl ?_
    refine o_1 (pc' := 53) rfl d_lov_52 rfl (by first | rfl | assumption) ?_
    refine o_4 (v := (1 : Int32)) (pc' := 54) rfl d_lov_53 rfl ?_
    refine o_15 (pc' := 55) rfl d_lov_54 rfl (R.ext E1).ary (i := 1) (by decide) rfl ?_
    refine o_3v (M' := M_l2i) d_lov_55 (pc' := 58) rfl rfl rfl (o_0 hw 572 rfl) (o_0 hw 573 rfl) (tw_571 hw) (o_0 hw 575 rfl) (by decide) rfl (o_6 pd_30 rfl) rfl rfl rfl rfl (c_l2i K a0 hw t x y h1 X1 (D1 Lw0 (ty := .object "java/lang/Object") (by decide)) (D1 Lw1 (ty := .object "java/lang/Object") (by decide))) (by simp) ?_
    rintro h2 xs2 ⟨k2, T2⟩
    refine o_i rfl rfl (by first | rfl | assumption) d_lov_58 rfl rfl ?_
    exact ⟨t, rfl, o_f E1 k2 (by intro z hz; cases List.mem_singleton.mp hz; omega), Or.inr (Or.inl ⟨x, y, rfl, ny, T2⟩)⟩
  | [v, u, s], _, _ =>
    obtain ⟨x, rfl, nx, Ix⟩ := hI v (by simp)
    obtain ⟨y, rfl, ny, Iy⟩ := hI u (by simp)
    obtain ⟨z, rfl, nz, Iz⟩ := hI s (by simp)
    refine o_3f (M := M_lov) pn_lov rfl (by first | rfl | exact o_5 (by assumption)) ?_
    refine o_1 (pc' := 1) rfl d_lov_0 rfl (by first | rfl | assumption) ?_
    refine o_01 (z := 3) (pc' := 2) rfl d_lov_1 R.ary rfl ?_
    refine o_91 (pc' := 59) d_lov_2 (by decide) (by decide) (by decide) ?_
    refine o_1 (pc' := 60) rfl d_lov_59 rfl (by first | rfl | assumption) ?_
    refine o_03 (M' := M_lfa) d_lov_60 (pc' := 63) rfl (o_0 hw 513 rfl) (o_0 hw 514 rfl) (tw_182 hw) (o_0 hw 515 rfl) (by decide) rfl (o_6 pd_49 rfl) rfl rfl rfl rfl (c_lfa K a0 hw r x y z h R Ix Iy Iz) (by simp) ?_
    rintro w h1 xs1 ⟨t, rfl, E1, T1⟩
    refine o_i rfl rfl (by first | rfl | assumption) d_lov_63 rfl rfl ?_
    exact ⟨t, rfl, E1, Or.inr (Or.inr ⟨Or.inr rfl, T1⟩)⟩
  | _ :: _ :: _ :: _ :: _, _, hl => exact absurd hl (by simp)
theorem d_cp3o_0 : decode Bn20 0 = .ok (.aload_n 2, 1) := by decide +kernel
theorem d_cp3o_1 : decode Bn20 1 = .ok (.ldc 110, 2) := by decide +kernel
theorem d_cp3o_3 : decode Bn20 3 = .ok (.if_acmp .ne 10, 3) := by decide +kernel
theorem d_cp3o_6 : decode Bn20 6 = .ok (.iload_n 1, 1) := by decide +kernel
theorem d_cp3o_7 : decode Bn20 7 = .ok (.anewarray 2, 3) := by decide +kernel
theorem d_cp3o_10 : decode Bn20 10 = .ok (.goto 14, 3) := by decide +kernel
theorem d_cp3o_24 : decode Bn20 24 = .ok (.astore_n 3, 1) := by decide +kernel
theorem d_cp3o_25 : decode Bn20 25 = .ok (.aload_n 0, 1) := by decide +kernel
theorem d_cp3o_26 : decode Bn20 26 = .ok (.iconst 0, 1) := by decide +kernel
theorem d_cp3o_27 : decode Bn20 27 = .ok (.aload_n 3, 1) := by decide +kernel
theorem d_cp3o_28 : decode Bn20 28 = .ok (.iconst 0, 1) := by decide +kernel
theorem d_cp3o_29 : decode Bn20 29 = .ok (.aload_n 0, 1) := by decide +kernel
theorem d_cp3o_30 : decode Bn20 30 = .ok (.arraylength, 1) := by decide +kernel
theorem d_cp3o_31 : decode Bn20 31 = .ok (.iload_n 1, 1) := by decide +kernel
theorem d_cp3o_32 : decode Bn20 32 = .ok (.invokestatic 304, 3) := by decide +kernel
theorem d_cp3o_35 : decode Bn20 35 = .ok (.invokestatic 150, 3) := by decide +kernel
theorem d_cp3o_38 : decode Bn20 38 = .ok (.aload_n 3, 1) := by decide +kernel
theorem d_cp3o_39 : decode Bn20 39 = .ok (.areturn, 1) := by decide +kernel
abbrev M_cp3o : o_7 := (Yn96, jdk_65_method_120_code, 4, (Option.some (FieldType.array (FieldType.object "java/lang/Object"))), ({ frames := 1, cells := 1, slots := 3, locals := 40 } : Room))
theorem pn_cp3o : plainFor (o_7.y M_cp3o) = true := plainFor_of_name (by first | (simp [plainName, overriddenIn]; done) | decide +kernel)
theorem c_cp3o (K : o_b) (a0 : Array Value) (hw : ∀ d ∈ tables_1, d.before a0 K.Z = true) (mr : Addr) (G : o_3h K.Z o_11 mr) (e : Addr) (xs ys : List Value) (n : Int32) (h : Heap) (hn : n.toInt = xs.length) (hl : xs.length ≤ 3) (R : o_02 K.Z h e o_0m (xs ++ ys)) (fy : ∀ v ∈ ys, v = .null) (hI : ∀ v ∈ xs, ∃ y, v = .ref y ∧ Ins K.Z h y o_0m true) :
    o_9 K M_cp3o #[.ref e, .int n, .ref mr] [] h (o_c fun w h' _ => ∃ r : Addr, w = .ref r ∧ Ext h h' ∧ o_02 K.Z h' r o_0m xs) := by
  have hle : (xs ++ ys).length < 2 ^ 31 := by obtain ⟨_, _, _, _, q, -⟩ := R; exact q
  have hln : ((xs ++ ys).length.toInt32).toInt = (xs ++ ys).length := o_0o _ hle
  have hxy : (xs ++ ys).length = xs.length + ys.length := List.length_append
  refine o_88 (M := M_cp3o) pn_cp3o rfl (by first | rfl | exact o_5 (by assumption)) (by first | rfl | exact o_5 (by assumption)) (by first | rfl | exact o_5 (by assumption)) ?_
  refine o_1 (pc' := 1) rfl d_cp3o_0 rfl (by first | rfl | assumption) ?_
  refine o_94 (pc' := 3) rfl d_cp3o_1 (o_0 hw 508 rfl) G ?_
  refine o_6g (pcT := 13) (pcF := 6) d_cp3o_3 (by decide) (by decide) rfl (by first | rfl | assumption) (by first | rfl | assumption) (fun q => ?_) (fun q => ?_)
  · exact absurd rfl q
  refine o_2 (pc' := 7) rfl d_cp3o_6 rfl ?_
  refine o_37 (pc' := 10) rfl d_cp3o_7 (o_0 hw 509 rfl) (tw_284 hw) (N := xs.length) (cap := 3) hn hl rfl rfl rfl ?_
  intro r h1 er E1 R1
  have Re := R.ext E1
  refine o_o (pc' := 24) d_cp3o_10 (by decide) (by decide) ?_
  refine o_2t (pc' := 25) rfl d_cp3o_24 (by first | exact One.u | exact One.val rfl | assumption | exact One.val (by assumption)) (by first | rfl | assumption) ?_
  refine o_1 (pc' := 26) rfl d_cp3o_25 rfl (by first | rfl | assumption) ?_
  refine o_4 (v := (0 : Int32)) (pc' := 27) rfl d_cp3o_26 rfl ?_
  refine o_1 (pc' := 28) rfl d_cp3o_27 rfl (by first | rfl | assumption) ?_
  refine o_4 (v := (0 : Int32)) (pc' := 29) rfl d_cp3o_28 rfl ?_
  refine o_1 (pc' := 30) rfl d_cp3o_29 rfl (by first | rfl | assumption) ?_
  refine o_01 (z := ((xs ++ ys).length.toInt32)) (pc' := 31) rfl d_cp3o_30 Re.ary hln ?_
  refine o_2 (pc' := 32) rfl d_cp3o_31 rfl ?_
  refine o_0n (M' := M_mmn) d_cp3o_32 (pc' := 35) rfl (tw_390 hw) (tw_359 hw) (tw_281 hw) (tw_360 hw) (by decide) rfl (o_6 pd_16 rfl) rfl rfl rfl rfl (c_mmn K a0 hw _ n h1) (by simp) ?_
  rintro w h2 xs2 ⟨m, rfl, hm, rfl⟩
  obtain rfl : m = n := by
    rcases hm with ⟨q1, q2⟩ | ⟨q1, q2⟩
    · exact q2
    · rw [q2]
      exact Int32.toInt_inj.mp (by omega)
  refine o_95 (pc' := 38) rfl d_cp3o_35 (tw_391 hw) (tw_394 hw) (tw_392 hw) (tw_393 hw) rfl rfl rfl Re R1 (by intro v hv; rcases List.mem_append.mp hv with hv | hv; obtain ⟨y, rfl, -⟩ := hI v hv; rfl; rw [fy v hv]; rfl) (by intro v hv; rw [(List.mem_replicate.mp hv).2]; rfl) (by intro v hv; rw [List.drop_zero, List.take_append_of_le_length (Nat.le_refl _), List.take_length] at hv; obtain ⟨y, ey, J⟩ := hI v hv; exact ⟨y, ey, J.ext E1⟩) (S := 0) (D := 0) (N := xs.length) rfl rfl hn (by omega) (by simp) (by simp) ?_
  intro h3 k3 R3
  have e3 : (List.replicate xs.length Value.null).take 0 ++ ((xs ++ ys).drop 0).take xs.length ++ (List.replicate xs.length Value.null).drop (0 + xs.length) = xs := by simp
  rw [e3] at R3
  refine o_1 (pc' := 39) rfl d_cp3o_38 rfl (by first | rfl | assumption) ?_
  refine o_i rfl rfl (by first | rfl | assumption) d_cp3o_39 rfl rfl ?_
  exact ⟨r, rfl, o_f E1 k3 (by intro z hz; cases List.mem_singleton.mp hz; omega), R3⟩
theorem d_cp2o_0 : decode Bn74 0 = .ok (.aload_n 0, 1) := by decide +kernel
theorem d_cp2o_1 : decode Bn74 1 = .ok (.iload_n 1, 1) := by decide +kernel
theorem d_cp2o_2 : decode Bn74 2 = .ok (.aload_n 0, 1) := by decide +kernel
theorem d_cp2o_3 : decode Bn74 3 = .ok (.invokevirtual 86, 3) := by decide +kernel
theorem d_cp2o_6 : decode Bn74 6 = .ok (.invokestatic 300, 3) := by decide +kernel
theorem d_cp2o_9 : decode Bn74 9 = .ok (.areturn, 1) := by decide +kernel
abbrev M_cp2o : o_7 := (Yn97, jdk_65_method_119_code, 2, (Option.some (FieldType.array (FieldType.object "java/lang/Object"))), ({ frames := 2, cells := 1, slots := 3, locals := 56 } : Room))
theorem pn_cp2o : plainFor (o_7.y M_cp2o) = true := plainFor_of_name (by first | (simp [plainName, overriddenIn]; done) | decide +kernel)
theorem c_cp2o (K : o_b) (a0 : Array Value) (hw : ∀ d ∈ tables_1, d.before a0 K.Z = true) (mr : Addr) (G : o_3h K.Z o_11 mr) (e : Addr) (xs ys : List Value) (n : Int32) (h : Heap) (hn : n.toInt = xs.length) (hl : xs.length ≤ 3) (R : o_02 K.Z h e o_0m (xs ++ ys)) (fy : ∀ v ∈ ys, v = .null) (hI : ∀ v ∈ xs, ∃ y, v = .ref y ∧ Ins K.Z h y o_0m true) :
    o_9 K M_cp2o #[.ref e, .int n] [] h (o_c fun w h' _ => ∃ r : Addr, w = .ref r ∧ Ext h h' ∧ o_02 K.Z h' r o_0m xs) := by
  refine o_08 (M := M_cp2o) pn_cp2o rfl (by first | rfl | exact o_5 (by assumption)) (by first | rfl | exact o_5 (by assumption)) ?_
  refine o_1 (pc' := 1) rfl d_cp2o_0 rfl (by first | rfl | assumption) ?_
  refine o_2 (pc' := 2) rfl d_cp2o_1 rfl ?_
  refine o_1 (pc' := 3) rfl d_cp2o_2 rfl (by first | rfl | assumption) ?_
  refine o_9r (pc' := 6) rfl d_cp2o_3 (o_0 hw 499 rfl) (o_0 hw 500 rfl) (tw_188 hw) (tw_502 hw) (o_0 hw 501 rfl) (o_0 hw 503 rfl) rfl rfl rfl (R.exa (ad := "[Ljava/lang/Object;") (by decide)) G ?_
  refine o_13 (M' := M_cp3o) d_cp2o_6 (pc' := 9) rfl (o_0 hw 505 rfl) (o_0 hw 506 rfl) (tw_382 hw) (o_0 hw 507 rfl) (by decide) rfl (o_6 pd_50 rfl) rfl rfl rfl rfl (c_cp3o K a0 hw mr G e xs ys n h hn hl R fy hI) (by simp) ?_
  rintro w h1 xs1 ⟨r, rfl, E1, R1⟩
  refine o_i rfl rfl (by first | rfl | assumption) d_cp2o_9 rfl rfl ?_
  exact ⟨r, rfl, E1, R1⟩
theorem d_toa_0 : decode Bn75 0 = .ok (.aload_n 0, 1) := by decide +kernel
theorem d_toa_1 : decode Bn75 1 = .ok (.getfield 9, 3) := by decide +kernel
theorem d_toa_4 : decode Bn75 4 = .ok (.aload_n 0, 1) := by decide +kernel
theorem d_toa_5 : decode Bn75 5 = .ok (.getfield 48, 3) := by decide +kernel
theorem d_toa_8 : decode Bn75 8 = .ok (.invokestatic 66, 3) := by decide +kernel
theorem d_toa_11 : decode Bn75 11 = .ok (.areturn, 1) := by decide +kernel
abbrev M_toa : o_7 := (Yn98, jdk_38_method_16_code, 1, (Option.some (FieldType.array (FieldType.object "java/lang/Object"))), ({ frames := 3, cells := 1, slots := 3, locals := 70 } : Room))
theorem pn_toa : plainFor (o_7.y M_toa) = true := plainFor_of_name (by first | (simp [plainName, overriddenIn]; done) | decide +kernel)
theorem c_toa (K : o_b) (a0 : Array Value) (hw : ∀ d ∈ tables_1, d.before a0 K.Z = true) (mr : Addr) (G : o_3h K.Z o_11 mr) (D l e : Addr) (xs : List Value) (h : Heap) (L : o_0s K.Z h D l e xs) (hp : 0 < xs.length) (hl : xs.length ≤ 3) (hI : ∀ v ∈ xs, ∃ y, v = .ref y ∧ Ins K.Z h y o_0m true) :
    o_9 K M_toa #[.ref l] [] h (o_c fun w h' _ => ∃ r : Addr, w = .ref r ∧ Ext h h' ∧ o_02 K.Z h' r o_0m xs) := by
  obtain ⟨f1, f2, f3, f4, f5, f6⟩ := L
  have R : o_02 K.Z h e o_0m (xs ++ List.replicate (10 - xs.length) .null) := f6.elim (fun z => by rw [z.2] at hp; exact absurd hp (Nat.lt_irrefl _)) (fun z => z.2)
  refine o_x (M := M_toa) pn_toa rfl (by first | rfl | exact o_5 (by assumption)) ?_
  refine o_1 (pc' := 1) rfl d_toa_0 rfl (by first | rfl | assumption) ?_
  refine o_q (pc' := 4) rfl d_toa_1 (tw_82 hw) Via.refl f4 ?_
  refine o_1 (pc' := 5) rfl d_toa_4 rfl (by first | rfl | assumption) ?_
  refine o_q (pc' := 8) rfl d_toa_5 (tw_167 hw) Via.refl f3 ?_
  refine o_0n (M' := M_cp2o) d_toa_8 (pc' := 11) rfl (o_0 hw 496 rfl) (o_0 hw 497 rfl) (tw_382 hw) (o_0 hw 498 rfl) (by decide) rfl (o_6 pd_51 rfl) rfl rfl rfl rfl (c_cp2o K a0 hw mr G e xs _ _ h (o_0o _ (by omega)) hl R (fun v hv => (List.mem_replicate.mp hv).2) hI) (by simp) ?_
  rintro w h1 xs1 ⟨r, rfl, E1, R1⟩
  refine o_i rfl rfl (by first | rfl | assumption) d_toa_11 rfl rfl ?_
  exact ⟨r, rfl, E1, R1⟩
theorem d_lf0_0 : decode Bn90 0 = .ok (.getstatic 90, 3) := by decide +kernel
theorem d_lf0_3 : decode Bn90 3 = .ok (.areturn, 1) := by decide +kernel
abbrev M_lf0 : o_7 := (Yn99, jdk_40_method_36_code, 0, (Option.some (FieldType.object "java/util/List")), ({ frames := 0, cells := 0, slots := 0, locals := 0 } : Room))
theorem pn_lf0 : plainFor (o_7.y M_lf0) = true := plainFor_of_name (by first | (simp [plainName, overriddenIn]; done) | decide +kernel)
theorem c_lf0 (K : o_b) (a0 : Array Value) (hw : ∀ d ∈ tables_1, d.before a0 K.Z = true) (el : Addr) (SL : Sta K.Z K.Z.heap o_2q "EMPTY_LIST" "Ljava/util/ImmutableCollections$ListN;" (.ref el)) (h : Heap) :
    o_9 K M_lf0 #[] [] h (o_c fun w h' _ => w = .ref el ∧ h' = h) := by
  refine o_84 (M := M_lf0) pn_lf0 rfl ?_
  refine o_2o (pc' := 3) rfl d_lf0_0 (o_0 hw 202 rfl) Via.refl SL ?_
  refine o_i rfl rfl (by first | rfl | assumption) d_lf0_3 rfl rfl ?_
  exact ⟨rfl, rfl⟩
theorem o_96 {Z : State} {a0 : Array Value} {O K : String} {n : Nat} (w : (Jvm.Cond.noSuperclass O).before a0 Z = true) (wk : (Jvm.Cond.instantiable K n).before a0 Z = true) (hn : O ≠ K) : NS Z O K := by
  obtain ⟨c, k, h1, h2, h3, -, -⟩ := Cond.noSuperclass_spec w
  obtain ⟨t, kt, g1, -⟩ := Cond.instantiable_spec wk
  have ne := ids_ne h1 g1 hn
  refine ⟨c, t, h1, g1, fun fuel => ?_⟩
  cases fuel with
  | zero => rfl
  | succ f => simp [Vm.isSubclassAux, ne, h2, h3]
theorem o_9s {Z : State} {a0 : Array Value} {C S K : String} {n : Nat} (w : (Jvm.Cond.superclass C S).before a0 Z = true) (wk : (Jvm.Cond.instantiable K n).before a0 Z = true) (nn : NS Z C K) (hn : C ≠ K) : ∃ c t, Z.vm.findClass C = some c ∧ Z.vm.findClass K = some t ∧ Z.vm.assignable c t = false := by
  obtain ⟨c, t, h0, g0, n3⟩ := nn
  obtain ⟨p, k, kp, h1, h2, h3, h4, h5, -, h7⟩ := Cond.superclass_spec h0 w
  obtain ⟨t', kt, g1, g2, g3, g4, -, -⟩ := Cond.instantiable_spec wk
  cases g0.symm.trans g1
  have ne := ids_ne h0 g0 hn
  have g7 : kt.isInterface = false := by
    cases hq : kt.isInterface with
    | false => rfl
    | true => rw [hq] at g4; cases g4
  refine ⟨c, t, h0, g0, ?_⟩
  show Z.vm.assignableAux (255 + 1) c t = false
  simp [Vm.assignableAux, ne, h2, g2, h5, g3, g7, Vm.isSubclass, n3]
theorem o_6w {Z : State} {a0 : Array Value} {D : String} {n : Nat} (hw : ∀ d ∈ tables_1, d.before a0 Z = true) (wd : (Jvm.Cond.instantiable D n).before a0 Z = true) (h1 : o_0m ≠ D) (h2 : "java/util/AbstractCollection" ≠ D) (h3 : o_4l ≠ D) (h4 : o_0r ≠ D) : ∃ c t, Z.vm.findClass o_0r = some c ∧ Z.vm.findClass D = some t ∧ Z.vm.assignable c t = false :=
  o_9s (tw_185 hw) wd (NS.step (tw_185 hw) (NS.step (o_0 hw 186 rfl) (NS.step (o_0 hw 187 rfl) (o_96 (tw_188 hw) wd h1) h2) h3) h4) h4
theorem d_lcp_0 : decode Bn27 0 = .ok (.aload_n 0, 1) := by decide +kernel
theorem d_lcp_1 : decode Bn27 1 = .ok (.instanceof 10, 3) := by decide +kernel
theorem d_lcp_4 : decode Bn27 4 = .ok (.ifCond .ne 22, 3) := by decide +kernel
theorem d_lcp_7 : decode Bn27 7 = .ok (.aload_n 0, 1) := by decide +kernel
theorem d_lcp_8 : decode Bn27 8 = .ok (.instanceof 12, 3) := by decide +kernel
theorem d_lcp_11 : decode Bn27 11 = .ok (.ifCond .eq 20, 3) := by decide +kernel
theorem d_lcp_31 : decode Bn27 31 = .ok (.aload_n 0, 1) := by decide +kernel
theorem d_lcp_32 : decode Bn27 32 = .ok (.invokeinterface 20 1, 5) := by decide +kernel
theorem d_lcp_37 : decode Bn27 37 = .ok (.ifCond .eq 7, 3) := by decide +kernel
theorem d_lcp_40 : decode Bn27 40 = .ok (.invokestatic 26, 3) := by decide +kernel
theorem d_lcp_43 : decode Bn27 43 = .ok (.areturn, 1) := by decide +kernel
theorem d_lcp_44 : decode Bn27 44 = .ok (.aload_n 0, 1) := by decide +kernel
theorem d_lcp_45 : decode Bn27 45 = .ok (.invokeinterface 30 1, 5) := by decide +kernel
theorem d_lcp_50 : decode Bn27 50 = .ok (.invokestatic 34, 3) := by decide +kernel
theorem d_lcp_53 : decode Bn27 53 = .ok (.areturn, 1) := by decide +kernel
abbrev M_lcp : o_7 := (Yn100, jdk_56_method_3_code, 2, (Option.some (FieldType.object "java/util/List")), ({ frames := 7, cells := 3, slots := 8, locals := 93 } : Room))
theorem pn_lcp : plainFor (o_7.y M_lcp) = true := plainFor_of_name (by first | (simp [plainName, overriddenIn]; done) | decide +kernel)
theorem c_lcp (K : o_b) (a0 : Array Value) (hw : ∀ d ∈ tables_1, d.before a0 K.Z = true) (mr : Addr) (G : o_3h K.Z o_11 mr) (E0 : Addr) (S0 : Sta K.Z K.Z.heap o_2q "EMPTY" o_0f (.ref E0)) (el : Addr) (SL : Sta K.Z K.Z.heap o_2q "EMPTY_LIST" "Ljava/util/ImmutableCollections$ListN;" (.ref el)) (D l e : Addr) (xs : List Value) (h : Heap) (LE : o_3b K.Z h el []) (L : o_0s K.Z h D l e xs) (hl : xs.length ≤ 3) (hI : ∀ v ∈ xs, ∃ y, v = .ref y ∧ y ≠ E0 ∧ Ins K.Z h y o_0m true) :
    o_9 K M_lcp #[.ref l] [] h (o_c fun w h' _ => ∃ t : Addr, w = .ref t ∧ Ext h h' ∧ o_54 K.Z h' E0 t xs) := by
  refine o_3f (M := M_lcp) pn_lcp rfl (by first | rfl | exact o_5 (by assumption)) ?_
  refine o_1 (pc' := 1) rfl d_lcp_0 rfl (by first | rfl | assumption) ?_
  refine o_6i (pc' := 4) rfl d_lcp_1 (o_0 hw 184 rfl) L.1 (o_6w hw (tw_570 hw) (by decide) (by decide) (by decide) (by decide)) ?_
  refine o_0k (pcT := 26) (pcF := 7) d_lcp_4 (by decide) (by decide) rfl (fun q1 => ?_) (fun q1 => ?_)
  · exact absurd rfl q1
  refine o_1 (pc' := 8) rfl d_lcp_7 rfl (by first | rfl | assumption) ?_
  refine o_6i (pc' := 11) rfl d_lcp_8 (tw_189 hw) L.1 (o_6w hw (tw_518 hw) (by decide) (by decide) (by decide) (by decide)) ?_
  refine o_k (pcT := 31) (pcF := 14) d_lcp_11 (by decide) (by decide) rfl (fun q2 => ?_) (fun q2 => ?_)
  rotate_left 1
  · exact absurd rfl q2
  refine o_1 (pc' := 32) rfl d_lcp_31 rfl (by first | rfl | assumption) ?_
  refine o_2y (M' := M_aie) d_lcp_32 (pc' := 37) rfl (o_0 hw 190 rfl) (o_0 hw 191 rfl) (o_0 hw 192 rfl) rfl (o_0 hw 193 rfl) (o_0 hw 194 rfl) (o_0 hw 195 rfl) (o_0 hw 196 rfl) (tw_197 hw) (tw_62 hw) (o_0 hw 198 rfl) (by decide) rfl (o_6 pd_11 rfl) rfl rfl rfl rfl L.1 (c_aie K a0 hw D l e xs h L) (by simp) ?_
  rintro w h1 xs1 ⟨rfl, rfl⟩
  by_cases q0 : xs.length = 0
  · rw [if_pos q0]
    obtain rfl : xs = [] := List.length_eq_zero_iff.mp q0
    refine o_k (pcT := 44) (pcF := 40) d_lcp_37 (by decide) (by decide) rfl (fun q3 => ?_) (fun q3 => ?_)
    · exact absurd q3 (by decide)
    refine o_7n (M' := M_lf0) d_lcp_40 (pc' := 43) rfl (o_0 hw 199 rfl) (o_0 hw 200 rfl) (tw_178 hw) (o_0 hw 201 rfl) (by decide) rfl (o_6 pd_52 rfl) rfl rfl rfl rfl (c_lf0 K a0 hw el SL h1) (by simp) ?_
    rintro w h2 xs2 ⟨rfl, rfl⟩
    refine o_i rfl rfl (by first | rfl | assumption) d_lcp_43 rfl rfl ?_
    exact ⟨el, rfl, o_3y _, Or.inr (Or.inr ⟨Or.inl rfl, LE⟩)⟩
  · rw [if_neg q0]
    refine o_k (pcT := 44) (pcF := 40) d_lcp_37 (by decide) (by decide) rfl (fun q3 => ?_) (fun q3 => ?_)
    rotate_left 1
    · exact absurd rfl q3
    refine o_1 (pc' := 45) rfl d_lcp_44 rfl (by first | rfl | assumption) ?_
    refine o_2y (M' := M_toa) d_lcp_45 (pc' := 50) rfl (o_0 hw 488 rfl) (o_0 hw 489 rfl) (o_0 hw 490 rfl) rfl (o_0 hw 491 rfl) (o_0 hw 492 rfl) (o_0 hw 493 rfl) (o_0 hw 494 rfl) (tw_197 hw) (tw_62 hw) (o_0 hw 495 rfl) (by decide) rfl (o_6 pd_19 rfl) rfl rfl rfl rfl L.1 (c_toa K a0 hw mr G D l e xs h1 L (by omega) hl (fun v hv => by obtain ⟨y, e1, -, e2⟩ := hI v hv; exact ⟨y, e1, e2⟩)) (by simp) ?_
    rintro w h2 xs2 ⟨r, rfl, E2, R2⟩
    refine o_03 (M' := M_lov) d_lcp_50 (pc' := 53) rfl (o_0 hw 510 rfl) (o_0 hw 511 rfl) (tw_178 hw) (o_0 hw 512 rfl) (by decide) rfl (o_6 pd_49 rfl) rfl rfl rfl rfl (c_lov K a0 hw E0 S0 r xs h2 R2 (by omega) hl (fun v hv => by obtain ⟨y, e1, e3, e2⟩ := hI v hv; exact ⟨y, e1, e3, e2.ext E2⟩)) (by simp) ?_
    rintro w h3 xs3 ⟨t, rfl, E3, I3⟩
    refine o_i rfl rfl (by first | rfl | assumption) d_lcp_53 rfl rfl ?_
    exact ⟨t, rfl, o_t E2 E3, I3⟩
theorem d_lco_0 : decode Bn89 0 = .ok (.aload_n 0, 1) := by decide +kernel
theorem d_lco_1 : decode Bn89 1 = .ok (.invokestatic 112, 3) := by decide +kernel
theorem d_lco_4 : decode Bn89 4 = .ok (.areturn, 1) := by decide +kernel
abbrev M_lco : o_7 := (Yn101, jdk_40_method_48_code, 1, (Option.some (FieldType.object "java/util/List")), ({ frames := 8, cells := 3, slots := 8, locals := 106 } : Room))
theorem pn_lco : plainFor (o_7.y M_lco) = true := plainFor_of_name (by first | (simp [plainName, overriddenIn]; done) | decide +kernel)
theorem c_lco (K : o_b) (a0 : Array Value) (hw : ∀ d ∈ tables_1, d.before a0 K.Z = true) (mr : Addr) (G : o_3h K.Z o_11 mr) (E0 : Addr) (S0 : Sta K.Z K.Z.heap o_2q "EMPTY" o_0f (.ref E0)) (el : Addr) (SL : Sta K.Z K.Z.heap o_2q "EMPTY_LIST" "Ljava/util/ImmutableCollections$ListN;" (.ref el)) (D l e : Addr) (xs : List Value) (h : Heap) (LE : o_3b K.Z h el []) (L : o_0s K.Z h D l e xs) (hl : xs.length ≤ 3) (hI : ∀ v ∈ xs, ∃ y, v = .ref y ∧ y ≠ E0 ∧ Ins K.Z h y o_0m true) :
    o_9 K M_lco #[.ref l] [] h (o_c fun w h' _ => ∃ t : Addr, w = .ref t ∧ Ext h h' ∧ o_54 K.Z h' E0 t xs) := by
  refine o_x (M := M_lco) pn_lco rfl (by first | rfl | exact o_5 (by assumption)) ?_
  refine o_1 (pc' := 1) rfl d_lco_0 rfl (by first | rfl | assumption) ?_
  refine o_03 (M' := M_lcp) d_lco_1 (pc' := 4) rfl (o_0 hw 180 rfl) (o_0 hw 181 rfl) (tw_182 hw) (o_0 hw 183 rfl) (by decide) rfl (o_6 pd_53 rfl) rfl rfl rfl rfl (c_lcp K a0 hw mr G E0 S0 el SL D l e xs h LE L hl hI) (by simp) ?_
  rintro w h1 xs1 ⟨t, rfl, E1, I1⟩
  refine o_i rfl rfl (by first | rfl | assumption) d_lco_4 rfl rfl ?_
  exact ⟨t, rfl, E1, I1⟩
theorem d_opr_0 : decode Bn49 0 = .ok (.aload_n 0, 1) := by decide +kernel
theorem d_opr_1 : decode Bn49 1 = .ok (.getfield 10, 3) := by decide +kernel
theorem d_opr_4 : decode Bn49 4 = .ok (.invokeinterface 24 1, 5) := by decide +kernel
theorem d_opr_9 : decode Bn49 9 = .ok (.iload_n 1, 1) := by decide +kernel
theorem d_opr_10 : decode Bn49 10 = .ok (.if_icmp .eq 22, 3) := by decide +kernel
theorem d_opr_32 : decode Bn49 32 = .ok (.aload_n 0, 1) := by decide +kernel
theorem d_opr_33 : decode Bn49 33 = .ok (.getfield 10, 3) := by decide +kernel
theorem d_opr_36 : decode Bn49 36 = .ok (.invokestatic 86, 3) := by decide +kernel
theorem d_opr_39 : decode Bn49 39 = .ok (.areturn, 1) := by decide +kernel
abbrev M_opr : o_7 := (Yn102, prog_1_method_3_code, 3, (Option.some (FieldType.object "java/util/List")), ({ frames := 9, cells := 3, slots := 8, locals := 119 } : Room))
theorem pn_opr : plainFor (o_7.y M_opr) = true := plainFor_of_name (by first | (simp [plainName, overriddenIn]; done) | decide +kernel)
theorem c_opr (K : o_b) (a0 : Array Value) (hw : ∀ d ∈ tables_1, d.before a0 K.Z = true) (mr : Addr) (G : o_3h K.Z o_11 mr) (E0 : Addr) (S0 : Sta K.Z K.Z.heap o_2q "EMPTY" o_0f (.ref E0)) (el : Addr) (SL : Sta K.Z K.Z.heap o_2q "EMPTY_LIST" "Ljava/util/ImmutableCollections$ListN;" (.ref el)) (D a ops m e z : Addr) (xs : List Value) (n : Int32) (h : Heap) (hn : n = xs.length.toInt32) (LE : o_3b K.Z h el []) (A : o_22 K.Z h a ops m) (L : o_0s K.Z h D ops e xs) (hl : xs.length ≤ 3) (hI : ∀ v ∈ xs, ∃ y, v = .ref y ∧ y ≠ E0 ∧ Ins K.Z h y o_0m true) :
    o_9 K M_opr #[.ref a, .int n, .ref z] [] h (o_c fun w h' _ => ∃ t : Addr, w = .ref t ∧ Ext h h' ∧ o_54 K.Z h' E0 t xs) := by
  refine o_1d (M := M_opr) pn_opr rfl (by first | rfl | exact o_5 (by assumption)) (by first | rfl | exact o_5 (by assumption)) (by first | rfl | exact o_5 (by assumption)) ?_
  refine o_1 (pc' := 1) rfl d_opr_0 rfl (by first | rfl | assumption) ?_
  refine o_q (pc' := 4) rfl d_opr_1 (tw_138 hw) Via.refl A.2.1 ?_
  refine o_2y (M' := M_asz) d_opr_4 (pc' := 9) rfl (tw_158 hw) (tw_159 hw) (tw_160 hw) rfl (tw_161 hw) (tw_162 hw) (tw_163 hw) (tw_164 hw) (tw_165 hw) (tw_62 hw) (tw_166 hw) (by decide) rfl (o_6 pd_13 rfl) rfl rfl rfl rfl L.1 (c_asz K a0 hw D ops e xs h L) (by simp) ?_
  rintro w h1 xs1 ⟨rfl, rfl⟩
  refine o_2 (pc' := 10) rfl d_opr_9 rfl ?_
  refine o_33 (pcT := 32) (pcF := 13) d_opr_10 (by decide) (by decide) rfl (fun q => ?_) (fun q => ?_)
  rotate_left 1
  · exact absurd hn.symm q
  refine o_1 (pc' := 33) rfl d_opr_32 rfl (by first | rfl | assumption) ?_
  refine o_q (pc' := 36) rfl d_opr_33 (tw_138 hw) Via.refl A.2.1 ?_
  refine o_03 (M' := M_lco) d_opr_36 (pc' := 39) rfl (o_0 hw 176 rfl) (o_0 hw 177 rfl) (tw_178 hw) (o_0 hw 179 rfl) (by decide) rfl (o_6 pd_53 rfl) rfl rfl rfl rfl (c_lco K a0 hw mr G E0 S0 el SL D ops e xs h1 LE L hl hI) (by simp) ?_
  rintro w h2 xs2 ⟨t, rfl, E2, I2⟩
  refine o_i rfl rfl (by first | rfl | assumption) d_opr_39 rfl rfl ?_
  exact ⟨t, rfl, E2, I2⟩
theorem d_lns2_0 : decode Bn77 0 = .ok (.aload_n 0, 1) := by decide +kernel
theorem d_lns2_1 : decode Bn77 1 = .ok (.getfield 7, 3) := by decide +kernel
theorem d_lns2_4 : decode Bn77 4 = .ok (.arraylength, 1) := by decide +kernel
theorem d_lns2_5 : decode Bn77 5 = .ok (.ireturn, 1) := by decide +kernel
abbrev M_lns2 : o_7 := (Yn9, jdk_45_method_3_code, 1, (Option.some FieldType.int), ({ frames := 0, cells := 0, slots := 0, locals := 0 } : Room))
theorem pn_lns2 : plainFor (o_7.y M_lns2) = true := plainFor_of_name (by first | (simp [plainName, overriddenIn]; done) | decide +kernel)
theorem c_lns2 (K : o_b) (a0 : Array Value) (hw : ∀ d ∈ tables_1, d.before a0 K.Z = true) (t : Addr) (vs : List Value) (h : Heap) (F : o_3b K.Z h t vs) : o_9 K M_lns2 #[.ref t] [] h (o_c fun w h' _ => w = .int vs.length.toInt32 ∧ h' = h) := by
  obtain ⟨f1, e, f2, f3⟩ := F
  refine o_x (M := M_lns2) pn_lns2 rfl (by first | rfl | exact o_5 (by assumption)) ?_
  refine o_1 (pc' := 1) rfl d_lns2_0 rfl (by first | rfl | assumption) ?_
  refine o_q (pc' := 4) rfl d_lns2_1 (tw_211 hw) Via.refl f2 ?_
  refine o_01 (z := (vs.length.toInt32)) (pc' := 5) rfl d_lns2_4 f3 (o_0o _ (by obtain ⟨_, _, _, r⟩ := f3; exact r)) ?_
  refine o_00 rfl d_lns2_5 rfl rfl ?_
  exact ⟨rfl, rfl⟩
theorem d_lng_0 : decode Bn66 0 = .ok (.aload_n 0, 1) := by decide +kernel
theorem d_lng_1 : decode Bn66 1 = .ok (.getfield 7, 3) := by decide +kernel
theorem d_lng_4 : decode Bn66 4 = .ok (.iload_n 1, 1) := by decide +kernel
theorem d_lng_5 : decode Bn66 5 = .ok (.aaload, 1) := by decide +kernel
theorem d_lng_6 : decode Bn66 6 = .ok (.areturn, 1) := by decide +kernel
abbrev M_lng : o_7 := (Yn13, jdk_45_method_4_code, 2, (Option.some (FieldType.object "java/lang/Object")), ({ frames := 0, cells := 0, slots := 0, locals := 0 } : Room))
theorem pn_lng : plainFor (o_7.y M_lng) = true := plainFor_of_name (by first | (simp [plainName, overriddenIn]; done) | decide +kernel)
theorem c_lng (K : o_b) (a0 : Array Value) (hw : ∀ d ∈ tables_1, d.before a0 K.Z = true) (t : Addr) (vs : List Value) (i : Int32) (I : Nat) (v : Value) (h : Heap) (F : o_3b K.Z h t vs) (hi : i.toInt = I) (hv : vs[I]? = some v) (hr : v.isRef = true) : o_9 K M_lng #[.ref t, .int i] [] h (o_c fun w h' _ => w = v ∧ h' = h) := by
  obtain ⟨f1, e, f2, f3⟩ := F
  refine o_08 (M := M_lng) pn_lng rfl (by first | rfl | exact o_5 (by assumption)) (by first | rfl | exact o_5 (by assumption)) ?_
  refine o_1 (pc' := 1) rfl d_lng_0 rfl (by first | rfl | assumption) ?_
  refine o_q (pc' := 4) rfl d_lng_1 (tw_211 hw) Via.refl f2 ?_
  refine o_2 (pc' := 5) rfl d_lng_4 rfl ?_
  refine o_15 (pc' := 6) rfl d_lng_5 rfl f3 (i := I) hi hv ?_
  refine o_i rfl rfl hr d_lng_6 rfl rfl ?_
  exact ⟨rfl, rfl⟩
theorem d_l2s_0 : decode Bn46 0 = .ok (.aload_n 0, 1) := by decide +kernel
theorem d_l2s_1 : decode Bn46 1 = .ok (.getfield 24, 3) := by decide +kernel
theorem d_l2s_4 : decode Bn46 4 = .ok (.getstatic 19, 3) := by decide +kernel
theorem d_l2s_7 : decode Bn46 7 = .ok (.if_acmp .eq 7, 3) := by decide +kernel
theorem d_l2s_10 : decode Bn46 10 = .ok (.iconst 2, 1) := by decide +kernel
theorem d_l2s_11 : decode Bn46 11 = .ok (.goto 4, 3) := by decide +kernel
theorem d_l2s_14 : decode Bn46 14 = .ok (.iconst 1, 1) := by decide +kernel
theorem d_l2s_15 : decode Bn46 15 = .ok (.ireturn, 1) := by decide +kernel
abbrev M_l2s : o_7 := (Yn14, jdk_44_method_3_code, 1, (Option.some FieldType.int), ({ frames := 0, cells := 0, slots := 0, locals := 0 } : Room))
theorem pn_l2s : plainFor (o_7.y M_l2s) = true := plainFor_of_name (by first | (simp [plainName, overriddenIn]; done) | decide +kernel)
theorem c_l2s (K : o_b) (a0 : Array Value) (hw : ∀ d ∈ tables_1, d.before a0 K.Z = true) (E0 : Addr) (S0 : Sta K.Z K.Z.heap o_2q "EMPTY" o_0f (.ref E0)) (t x y : Addr) (h : Heap) (F : o_3i K.Z h t x y) : o_9 K M_l2s #[.ref t] [] h (o_c fun w h' _ => w = .int (if y = E0 then 1 else 2) ∧ h' = h) := by
  obtain ⟨f1, f2, f3⟩ := F
  refine o_x (M := M_l2s) pn_l2s rfl (by first | rfl | exact o_5 (by assumption)) ?_
  refine o_1 (pc' := 1) rfl d_l2s_0 rfl (by first | rfl | assumption) ?_
  refine o_q (pc' := 4) rfl d_l2s_1 (tw_583 hw) Via.refl f3 ?_
  refine o_5u (pc' := 7) rfl d_l2s_4 (tw_591 hw) Via.refl S0 ?_
  refine o_4t (pcT := 14) (pcF := 10) d_l2s_7 (by decide) (by decide) rfl (by first | rfl | assumption) (by first | rfl | assumption) (fun q => ?_) (fun q => ?_)
  · have q' : y = E0 := by cases q; rfl
    rw [if_pos q']
    refine o_4 (v := (1 : Int32)) (pc' := 15) rfl d_l2s_14 rfl ?_
    refine o_00 rfl d_l2s_15 rfl rfl ?_
    exact ⟨rfl, rfl⟩
  · have q' : ¬ y = E0 := fun z => q (by rw [z])
    rw [if_neg q']
    refine o_4 (v := (2 : Int32)) (pc' := 11) rfl d_l2s_10 rfl ?_
    refine o_o (pc' := 15) d_l2s_11 (by decide) (by decide) ?_
    refine o_00 rfl d_l2s_15 rfl rfl ?_
    exact ⟨rfl, rfl⟩
theorem d_l2g_0 : decode Bn24 0 = .ok (.iload_n 1, 1) := by decide +kernel
theorem d_l2g_1 : decode Bn24 1 = .ok (.ifCond .ne 8, 3) := by decide +kernel
theorem d_l2g_4 : decode Bn24 4 = .ok (.aload_n 0, 1) := by decide +kernel
theorem d_l2g_5 : decode Bn24 5 = .ok (.getfield 13, 3) := by decide +kernel
theorem d_l2g_8 : decode Bn24 8 = .ok (.areturn, 1) := by decide +kernel
theorem d_l2g_9 : decode Bn24 9 = .ok (.iload_n 1, 1) := by decide +kernel
theorem d_l2g_10 : decode Bn24 10 = .ok (.iconst 1, 1) := by decide +kernel
theorem d_l2g_11 : decode Bn24 11 = .ok (.if_icmp .ne 18, 3) := by decide +kernel
theorem d_l2g_14 : decode Bn24 14 = .ok (.aload_n 0, 1) := by decide +kernel
theorem d_l2g_15 : decode Bn24 15 = .ok (.getfield 24, 3) := by decide +kernel
theorem d_l2g_18 : decode Bn24 18 = .ok (.getstatic 19, 3) := by decide +kernel
theorem d_l2g_21 : decode Bn24 21 = .ok (.if_acmp .eq 8, 3) := by decide +kernel
theorem d_l2g_24 : decode Bn24 24 = .ok (.aload_n 0, 1) := by decide +kernel
theorem d_l2g_25 : decode Bn24 25 = .ok (.getfield 24, 3) := by decide +kernel
theorem d_l2g_28 : decode Bn24 28 = .ok (.areturn, 1) := by decide +kernel
abbrev M_l2g : o_7 := (Yn15, jdk_44_method_5_code, 2, (Option.some (FieldType.object "java/lang/Object")), ({ frames := 0, cells := 0, slots := 0, locals := 0 } : Room))
theorem pn_l2g : plainFor (o_7.y M_l2g) = true := plainFor_of_name (by first | (simp [plainName, overriddenIn]; done) | decide +kernel)
theorem c_l2g0 (K : o_b) (a0 : Array Value) (hw : ∀ d ∈ tables_1, d.before a0 K.Z = true) (t x y : Addr) (h : Heap) (F : o_3i K.Z h t x y) : o_9 K M_l2g #[.ref t, .int 0] [] h (o_c fun w h' _ => w = .ref x ∧ h' = h) := by
  obtain ⟨f1, f2, f3⟩ := F
  refine o_08 (M := M_l2g) pn_l2g rfl (by first | rfl | exact o_5 (by assumption)) (by first | rfl | exact o_5 (by assumption)) ?_
  refine o_2 (pc' := 1) rfl d_l2g_0 rfl ?_
  refine o_0k (pcT := 9) (pcF := 4) d_l2g_1 (by decide) (by decide) rfl (fun q => ?_) (fun q => ?_)
  · exact absurd rfl q
  refine o_1 (pc' := 5) rfl d_l2g_4 rfl (by first | rfl | assumption) ?_
  refine o_q (pc' := 8) rfl d_l2g_5 (tw_581 hw) Via.refl f2 ?_
  refine o_i rfl rfl (by first | rfl | assumption) d_l2g_8 rfl rfl ?_
  exact ⟨rfl, rfl⟩
theorem c_l2g1 (K : o_b) (a0 : Array Value) (hw : ∀ d ∈ tables_1, d.before a0 K.Z = true) (E0 : Addr) (S0 : Sta K.Z K.Z.heap o_2q "EMPTY" o_0f (.ref E0)) (t x y : Addr) (h : Heap) (F : o_3i K.Z h t x y) (hy : y ≠ E0) : o_9 K M_l2g #[.ref t, .int 1] [] h (o_c fun w h' _ => w = .ref y ∧ h' = h) := by
  obtain ⟨f1, f2, f3⟩ := F
  refine o_08 (M := M_l2g) pn_l2g rfl (by first | rfl | exact o_5 (by assumption)) (by first | rfl | exact o_5 (by assumption)) ?_
  refine o_2 (pc' := 1) rfl d_l2g_0 rfl ?_
  refine o_0k (pcT := 9) (pcF := 4) d_l2g_1 (by decide) (by decide) rfl (fun q => ?_) (fun q => ?_)
  rotate_left 1
  · exact absurd q (by decide)
  refine o_2 (pc' := 10) rfl d_l2g_9 rfl ?_
  refine o_4 (v := (1 : Int32)) (pc' := 11) rfl d_l2g_10 rfl ?_
  refine o_07 (pcT := 29) (pcF := 14) d_l2g_11 (by decide) (by decide) rfl (fun q2 => ?_) (fun q2 => ?_)
  · exact absurd rfl q2
  refine o_1 (pc' := 15) rfl d_l2g_14 rfl (by first | rfl | assumption) ?_
  refine o_q (pc' := 18) rfl d_l2g_15 (tw_583 hw) Via.refl f3 ?_
  refine o_5u (pc' := 21) rfl d_l2g_18 (tw_591 hw) Via.refl S0 ?_
  refine o_4t (pcT := 29) (pcF := 24) d_l2g_21 (by decide) (by decide) rfl (by first | rfl | assumption) (by first | rfl | assumption) (fun q3 => ?_) (fun q3 => ?_)
  · exact absurd (by cases q3; rfl) hy
  refine o_1 (pc' := 25) rfl d_l2g_24 rfl (by first | rfl | assumption) ?_
  refine o_q (pc' := 28) rfl d_l2g_25 (tw_583 hw) Via.refl f3 ?_
  refine o_i rfl rfl (by first | rfl | assumption) d_l2g_28 rfl rfl ?_
  exact ⟨rfl, rfl⟩
/-! milliseconds, required, the law's check -/
section Lam
variable {K : o_b} {M : o_7} {Q : o_0g} {pc pc' : Nat} {Ls : List Slot} {St : List Value} {sf : List Addr} {h : Heap} {cs sl : Nat} {a0 : Array Value}
theorem o_8p (hp : pc + 1 = pc') (hd : decode M.b pc = .ok (.lconst 0, 1)) (k : o_3 K M Q pc' Ls (.long 0 :: St) sf h cs sl) : o_3 K M Q pc Ls St sf h cs sl :=
  o_e k fun p e s m args below meth c T locs cs' sl' B X eT t q => XT.lconstV X.here B.1 (g := mkF m pc Ls.toArray St) rfl 0 (hb B.2.1 hd) rfl (by subst hp; exact q)
theorem o_8q {index : Nat} {σ : Lambda.Shape} {c0 c1 : String} {x y : Addr} (hp : pc + 5 = pc') (hd : decode M.b pc = .ok (.invokedynamic index, 5)) (w : (Jvm.Cond.lambdaSite M.y pc index σ).before a0 K.Z = true) (wO : (Jvm.Cond.instantiable "java/lang/Object" 0).before a0 K.Z = true) (hcap : σ.captured.length = 2) (hlay : ((σ.file M.y.cls).bind (layoutFields · 0)).map (·.2.1) = some #[.object c0, .object c1]) (hsz : Ls.length = M.mx) (hl : Nat.ble (((Value.ref y :: .ref x :: St).map fun v => v.category).sum + 3072) M.R.locals = true) (hc : Nat.ble (cs + 1) M.R.cells = true) (hs : Nat.ble (sl + 2) M.R.slots = true)
    (k : ∀ h', Ext h h' → o_3 K M Q pc' Ls (.ref h.size :: St) (h.size :: sf) h' (cs + 1) (sl + 2)) : o_3 K M Q pc Ls (.ref y :: .ref x :: St) sf h cs sl := by
  subst hp
  refine o_4z (P := fun _ => True) (Nat.le_of_ble_eq_true hc) (Nat.le_of_ble_eq_true hs) (fun h' E _ => k h' E) ?_
  intro p e s m args below meth c T locs cs' sl' B X hc' hs' eT
  have hZ := B.2.2.2.2.2.2.2.1
  have hnm := B.2.2.2.2.1.2
  obtain ⟨cK, one, hat⟩ := Cond.lambdaSite_spec w
  obtain ⟨m', kS, cfS, i0, p0, lk, hm', hkS, hcfS, hshape, -, hfind, hmade, hcan, hlk⟩ := State.lambdaAt?_spec hat
  cases hnm.symm.trans hm'
  obtain ⟨rfl, rfl, -⟩ : lk = .makes cK ∧ one = none ∧ σ.captured ≠ [] := by
    rcases hlk with ⟨a, cell, -, -, q, -⟩ | q
    · rw [q] at hcap; exact absurd hcap (by decide)
    · exact q
  obtain ⟨kS', hkS', hnameS⟩ := className_of_methodNamed hnm
  cases hkS.symm.trans hkS'
  obtain ⟨bsm, nt, desc, site, hcp, hnt, hsite, hpar⟩ := Lambda.shapeOf?_site hshape
  obtain ⟨kK, hkK, htyK, hkindK, hhid⟩ := Lambda.made_types hmade hkS wO (by rw [hnameS]; exact hlay)
  obtain ⟨kS2, hkS2, eS⟩ := hZ.alike.2.2 _ _ hkS
  obtain ⟨kK2, hkK2, eK⟩ := hZ.alike.2.2 _ _ hkK
  have hty2 : kK2.instanceTypes = #[.object c0, .object c1] := by rw [eK]; exact htyK
  have hkind2 : kK2.kind = .ordinary := by rw [eK]; exact hkindK
  have hslotsE : ((kK2.instanceTypes.toList.zip [Value.ref x, Value.ref y]).map fun (t, v) => narrow t v) = [.ref x, .ref y] := by rw [hty2]; rfl
  have ql := Nat.le_of_ble_eq_true hl
  obtain ⟨X₁, st1⟩ := X.lambdaMakes B.1 (g := mkF m pc Ls.toArray (.ref y :: .ref x :: St)) rfl (by rw [B.2.2.1, ← hsz]; simp) (hb B.2.1 hd) (vals := [.ref x, .ref y]) (rest := St) hkS2 (by rw [eS]; exact hfind) (by rw [eS]; exact hcfS) hcp hnt (parseLong_of_parse hsite) (by rw [hpar, hcap]; rfl) rfl hkK2
    (by rw [X.admits.platform]; show 2 * 0 + ((Value.ref y :: .ref x :: St).map fun v => v.category).sum + 3072 ≤ _; omega) hc' (by rw [hslotsE]; exact hs')
    (fun i v hv => by
      rw [hslotsE] at hv
      match i, hv with
      | 0, hv => simp at hv; subst hv; simp [State.fitsSlot, State.slotType?, hkK2, hkind2, hty2, fits]
      | 1, hv => simp at hv; subst hv; simp [State.fitsSlot, State.slotType?, hkK2, hkind2, hty2, fits]
      | _ + 2, hv => simp at hv)
  rw [hslotsE] at X₁ st1
  subst eT
  have hnew := (Array.getElem?_eq_some_iff.mp (State.heap_pushCell_size T { cls := cK, slots := [Value.ref x, Value.ref y].toArray, vm := .none })).1
  exact ⟨_, _, X₁, rfl, ⟨Nat.le_of_lt hnew, fun z cz q => by rw [State.heap_pushCell_of_lt _ _ (Array.getElem?_eq_some_iff.mp q).1]; exact q⟩, hnew, trivial, st1⟩
end Lam
/-- what stays of parse's end -/
def o_2i (Z : State) (h : Heap) (a ops m : Addr) (s : Int32) (tb : Option Addr) (vs : List Value) (ent : Bool → o_0z) : Prop := o_22 Z h a ops m ∧ o_0x Z h m s tb vs ∧ ∀ b, o_17 Z h b vs (ent b)
theorem o_2i.arg {Z : State} {h : Heap} {a ops m : Addr} {s : Int32} {tb : Option Addr} {vs : List Value} {ent : Bool → o_0z} (F : o_2i Z h a ops m s tb vs ent) : o_22 Z h a ops m := F.1
theorem o_2i.map {Z : State} {h : Heap} {a ops m : Addr} {s : Int32} {tb : Option Addr} {vs : List Value} {ent : Bool → o_0z} (F : o_2i Z h a ops m s tb vs ent) : o_0x Z h m s tb vs := F.2.1
theorem o_2i.en {Z : State} {h : Heap} {a ops m : Addr} {s : Int32} {tb : Option Addr} {vs : List Value} {ent : Bool → o_0z} (F : o_2i Z h a ops m s tb vs ent) : ∀ b, o_17 Z h b vs (ent b) := F.2.2
theorem o_2i.ext {Z : State} {h h' : Heap} {a ops m : Addr} {s : Int32} {tb : Option Addr} {vs : List Value} {ent : Bool → o_0z} (F : o_2i Z h a ops m s tb vs ent) (E : Ext h h') : o_2i Z h' a ops m s tb vs ent := ⟨F.arg.ext E, F.map.ext E, fun b => (F.en b).ext E⟩
abbrev o_6o (Z : State) (h h' : Heap) (x : Addr) (v : Int32) : Prop := h' = h ∨ Wr h h' x (RoadKit.slotOf Z o_l "hash" "I") (.int v)
theorem o_2i.hw {Z : State} {a0 : Array Value} (hw : ∀ d ∈ tables_1, d.before a0 Z = true) {h h' : Heap} {a ops m x : Addr} {s v : Int32} {tb : Option Addr} {vs : List Value} {ent : Bool → o_0z} (F : o_2i Z h a ops m s tb vs ent) (X : Exa Z h x o_l) (q : o_6o Z h h' x v) : o_2i Z h' a ops m s tb vs ent := by
  have k := o_50 q
  have nx : ∀ {y : Addr} {C : String}, Exa Z h y C → C ≠ o_l → y ∉ [x] := fun E c z => ne_exa E X c (List.mem_singleton.mp z)
  have str : ∀ {y : Addr} {cs : List Int32}, o_h Z h y cs → o_h Z h' y cs := fun S => q.elim (fun e => by rw [e]; exact S) (fun W => S.hw hw X W)
  refine ⟨F.arg.keep k (nx F.arg.1 (by decide)), F.map.keep k (nx F.map.1 (by decide)) ?_, fun b => ?_⟩
  · rintro t rfl z
    exact o_19 F.map.2.2.2.2.2.2.ary X (tw_10 hw) (List.mem_singleton.mp z)
  · have e := F.en b
    match ent b, e with
    | none, e => exact e
    | some (n, k', v', ds), e => exact ⟨e.1, e.2.1.keep k (nx e.2.1.1 (by decide)), str e.2.2.1, str e.2.2.2⟩
theorem d_mil_0 : decode Bn50 0 = .ok (.aload_n 0, 1) := by decide +kernel
theorem d_mil_1 : decode Bn50 1 = .ok (.aload_n 1, 1) := by decide +kernel
theorem d_mil_2 : decode Bn50 2 = .ok (.invokevirtual 104, 3) := by decide +kernel
theorem d_mil_5 : decode Bn50 5 = .ok (.astore 5, 2) := by decide +kernel
theorem d_mil_7 : decode Bn50 7 = .ok (.aload 5, 2) := by decide +kernel
theorem d_mil_9 : decode Bn50 9 = .ok (.invokevirtual 108, 3) := by decide +kernel
theorem d_mil_12 : decode Bn50 12 = .ok (.ifCond .eq 5, 3) := by decide +kernel
theorem d_mil_15 : decode Bn50 15 = .ok (.aload_n 2, 1) := by decide +kernel
theorem d_mil_16 : decode Bn50 16 = .ok (.areturn, 1) := by decide +kernel
abbrev M_mil : o_7 := (Yn103, prog_1_method_6_code, 7, (Option.some (FieldType.object "java/time/Duration")), ({ frames := 8, cells := 1, slots := 1, locals := 140 } : Room))
theorem pn_mil : plainFor (o_7.y M_mil) = true := plainFor_of_name (by first | (simp [plainName, overriddenIn]; done) | decide +kernel)
theorem c_mil (K : o_b) (a0 : Array Value) (hw : ∀ d ∈ tables_1, d.before a0 K.Z = true) (e : Addr) (SE : Sta K.Z K.Z.heap o_1q "EMPTY" "Ljava/util/Optional;" (.ref e)) (g : Int32) (SC : Sta K.Z K.Z.heap o_l "COMPACT_STRINGS" "Z" (.int g)) (hg : ¬ g = 0) (a ops m x : Addr) (s : Int32) (tb : Option Addr) (vs : List Value) (ent : Bool → o_0z) (b : Bool) (h : Heap) (F : o_2i K.Z h a ops m s tb vs ent) (he : ent b = none) (XE : Exa K.Z h e o_1q) (FE : Fld K.Z h e o_1q "value" o_0f .null) (S : o_0j K.Z h x (o_r b) 0) :
    o_9 K M_mil #[.ref a, .ref x, .null, .long 0] [x] h (o_c fun w h' _ => w = .null ∧ o_6o K.Z h h' x (o_m (o_r b))) := by
  have f := o_5k b
  have hn : vs[o_26 b]? = some .null := by
    have q := F.en b
    rw [he] at q
    exact q
  refine o_12 (M := M_mil) pn_mil (Ls := [.val (.ref a), .val (.ref x), .val .null, .val (.long 0), .second, .unset, .unset]) (fun m => by first | rfl | simp [entryFrame, mkF, argsToLocals, List.replicate, Array.replicate, Value.category]) ?_
  refine o_1 (pc' := 1) rfl d_mil_0 rfl (by first | rfl | assumption) ?_
  refine o_1 (pc' := 2) rfl d_mil_1 rfl (by first | rfl | assumption) ?_
  refine o_0l (M' := M_opt) d_mil_2 (pc' := 5) rfl (tw_221 hw) (tw_222 hw) (tw_224 hw) (tw_223 hw) (tw_128 hw) (tw_225 hw) (by decide) rfl (o_6 pd_54 rfl) rfl rfl rfl rfl F.arg.1 (c_opt0 K a0 hw e SE g SC hg a ops m x s tb vs (o_26 b) (o_r b) 0 h F.arg F.map S (Or.inl rfl) f.2.2.1 f.2.2.2.1 (c_LH K a0 hw b) f.2.2.2.2 hn) (by simp) ?_
  rintro w h1 xs1 ⟨rfl, q1, n1, hn1, S1⟩
  have k1 := o_50 q1
  have nex : e ∉ [x] := fun z => ne_exa XE S.2.2.2.1 (by decide) (List.mem_singleton.mp z)
  refine o_2z (pc' := 7) rfl d_mil_5 (by first | exact One.u | exact One.val rfl | assumption | exact One.val (by assumption)) (by first | rfl | assumption) ?_
  refine o_d (pc' := 9) rfl d_mil_7 rfl (by first | rfl | assumption) ?_
  refine o_0p (M' := M_ope) d_mil_9 (pc' := 12) rfl (o_0 hw 247 rfl) (o_0 hw 248 rfl) (o_0 hw 250 rfl) (o_0 hw 249 rfl) (tw_244 hw) (o_0 hw 251 rfl) (by decide) rfl (o_6 pd_11 rfl) rfl rfl rfl rfl (XE.keep k1) (c_ope K a0 hw e h1 (FE.keep k1 nex)) (by simp) ?_
  rintro w h2 xs2 ⟨rfl, rfl⟩
  refine o_k (pcT := 17) (pcF := 15) d_mil_12 (by decide) (by decide) rfl (fun q => ?_) (fun q => ?_)
  · exact absurd q (by decide)
  refine o_1 (pc' := 16) rfl d_mil_15 rfl (by first | rfl | assumption) ?_
  refine o_i rfl rfl (by first | rfl | assumption) d_mil_16 rfl rfl ?_
  exact ⟨rfl, q1⟩
theorem o_9t : ((Lambda.Shape.file (Lambda.Shape.mk "java/util/function/Supplier" "get" (MethodDescriptor.mk ([] : List FieldType) (Option.some (FieldType.object "java/lang/Object"))) ([(FieldType.object "java/lang/String"), (FieldType.object "java/lang/String")] : List FieldType) 6 "com/example/hand_balancer/handbalancer/cli/Arguments" "lambda$required$0" (MethodDescriptor.mk ([(FieldType.object "java/lang/String"), (FieldType.object "java/lang/String")] : List FieldType) (Option.some (FieldType.object "com/example/hand_balancer/handbalancer/cli/InvalidInputException"))) false (MethodDescriptor.mk ([] : List FieldType) (Option.some (FieldType.object "com/example/hand_balancer/handbalancer/cli/InvalidInputException")))) "com/example/hand_balancer/handbalancer/cli/Arguments").bind (layoutFields · 0)).map (·.2.1) = some #[.object "java/lang/String", .object "java/lang/String"] := by decide +kernel
theorem d_req_0 : decode Bn51 0 = .ok (.aload_n 0, 1) := by decide +kernel
theorem d_req_1 : decode Bn51 1 = .ok (.aload_n 1, 1) := by decide +kernel
theorem d_req_2 : decode Bn51 2 = .ok (.invokevirtual 104, 3) := by decide +kernel
theorem d_req_5 : decode Bn51 5 = .ok (.aload_n 1, 1) := by decide +kernel
theorem d_req_6 : decode Bn51 6 = .ok (.aload_n 2, 1) := by decide +kernel
theorem d_req_7 : decode Bn51 7 = .ok (.invokedynamic 132, 5) := by decide +kernel
theorem d_req_12 : decode Bn51 12 = .ok (.invokevirtual 135, 3) := by decide +kernel
theorem d_req_15 : decode Bn51 15 = .ok (.checkcast 34, 3) := by decide +kernel
theorem d_req_18 : decode Bn51 18 = .ok (.areturn, 1) := by decide +kernel
abbrev M_req : o_7 := (Yn104, prog_1_method_7_code, 3, (Option.some (FieldType.object "java/lang/String")), ({ frames := 8, cells := 2, slots := 3, locals := 3080 } : Room))
theorem pn_req : plainFor (o_7.y M_req) = true := plainFor_of_name (by first | (simp [plainName, overriddenIn]; done) | decide +kernel)
theorem c_req (K : o_b) (a0 : Array Value) (hw : ∀ d ∈ tables_1, d.before a0 K.Z = true) (g : Int32) (SC : Sta K.Z K.Z.heap o_l "COMPACT_STRINGS" "Z" (.int g)) (hg : ¬ g = 0) (a ops m x u n k v : Addr) (s : Int32) (tb : Option Addr) (vs : List Value) (ent : Bool → o_0z) (b : Bool) (ds : List Int32) (h : Heap) (F : o_2i K.Z h a ops m s tb vs ent) (he : ent b = some (n, k, v, ds)) (S : o_0j K.Z h x (o_r b) 0) :
    o_9 K M_req #[.ref a, .ref x, .ref u] [x] h (o_c fun w h' _ => ∃ h1 : Heap, w = .ref v ∧ o_6o K.Z h h1 x (o_m (o_r b)) ∧ Ext h1 h' ∧ o_h K.Z h' v ds) := by
  have f := o_5k b
  have hn : vs[o_26 b]? = some (.ref n) ∧ o_21 K.Z h n (o_m (o_r b)) k v ∧ o_h K.Z h k (o_r b) ∧ o_h K.Z h v ds := by
    have q := F.en b
    rw [he] at q
    exact q
  obtain ⟨t, rfl⟩ : ∃ t, tb = some t := by
    cases tb with
    | some t => exact ⟨t, rfl⟩
    | none =>
      have q := F.map.2.2.2.2.2.2
      rw [q] at hn
      have q2 := hn.1
      cases b <;> simp [o_26] at q2
  refine o_1d (M := M_req) pn_req rfl (by first | rfl | exact o_5 (by assumption)) (by first | rfl | exact o_5 (by assumption)) (by first | rfl | exact o_5 (by assumption)) ?_
  refine o_1 (pc' := 1) rfl d_req_0 rfl (by first | rfl | assumption) ?_
  refine o_1 (pc' := 2) rfl d_req_1 rfl (by first | rfl | assumption) ?_
  refine o_0l (M' := M_opt) d_req_2 (pc' := 5) rfl (tw_221 hw) (tw_222 hw) (tw_224 hw) (tw_223 hw) (tw_128 hw) (tw_225 hw) (by decide) rfl (o_6 pd_54 rfl) rfl rfl rfl rfl F.arg.1 (c_opt1 K a0 hw g SC hg a ops m x t n k v s vs (o_26 b) (o_r b) ds 0 h F.arg F.map S (Or.inl rfl) f.2.2.1 f.2.2.2.1 (c_LH K a0 hw b) f.2.2.2.2 ⟨hn.1, hn.2.1, hn.2.2.1⟩ hn.2.2.2) (by simp) ?_
  rintro w h2 xs2 ⟨z, h1, rfl, q1, E2, X2, F2, V2⟩
  refine o_1 (pc' := 6) rfl d_req_5 rfl (by first | rfl | assumption) ?_
  refine o_1 (pc' := 7) rfl d_req_6 rfl (by first | rfl | assumption) ?_
  refine o_8q (pc' := 12) rfl d_req_7 (o_0 hw 560 rfl) (o_0 hw 563 rfl) rfl o_9t rfl rfl rfl rfl ?_
  intro h3 E3
  refine o_0l (M' := M_oot) d_req_12 (pc' := 15) rfl (o_0 hw 564 rfl) (o_0 hw 565 rfl) (o_0 hw 567 rfl) (o_0 hw 566 rfl) (tw_244 hw) (o_0 hw 568 rfl) (by decide) rfl (o_6 pd_55 rfl) rfl rfl rfl rfl (X2.ext E3) (c_oot K a0 hw z h2.size v h3 (F2.ext E3)) (by simp) ?_
  rintro w h4 xs4 ⟨rfl, rfl⟩
  refine o_24 (pc' := 18) rfl d_req_15 (tw_309 hw) (Ins.self (V2.ext E3).1) ?_
  refine o_i rfl rfl (by first | rfl | assumption) d_req_18 rfl rfl ?_
  exact ⟨h1, rfl, q1, o_t E2 E3, V2.ext E3⟩
theorem d_chk_0 : decode method_7_code 0 = .ok (.iload_n 2, 1) := by decide +kernel
theorem d_chk_1 : decode method_7_code 1 = .ok (.ifCond .ne 19, 3) := by decide +kernel
theorem d_chk_4 : decode method_7_code 4 = .ok (.aload_n 0, 1) := by decide +kernel
theorem d_chk_5 : decode method_7_code 5 = .ok (.aload_n 1, 1) := by decide +kernel
theorem d_chk_6 : decode method_7_code 6 = .ok (.aconst_null, 1) := by decide +kernel
theorem d_chk_7 : decode method_7_code 7 = .ok (.lconst 0, 1) := by decide +kernel
theorem d_chk_8 : decode method_7_code 8 = .ok (.invokevirtual 18, 3) := by decide +kernel
theorem d_chk_11 : decode method_7_code 11 = .ok (.ifnonnull 7, 3) := by decide +kernel
theorem d_chk_14 : decode method_7_code 14 = .ok (.iconst 1, 1) := by decide +kernel
theorem d_chk_15 : decode method_7_code 15 = .ok (.goto 4, 3) := by decide +kernel
theorem d_chk_19 : decode method_7_code 19 = .ok (.ireturn, 1) := by decide +kernel
theorem d_chk_20 : decode method_7_code 20 = .ok (.aload_n 0, 1) := by decide +kernel
theorem d_chk_21 : decode method_7_code 21 = .ok (.aload_n 1, 1) := by decide +kernel
theorem d_chk_22 : decode method_7_code 22 = .ok (.ldc 24, 2) := by decide +kernel
theorem d_chk_24 : decode method_7_code 24 = .ok (.invokevirtual 26, 3) := by decide +kernel
theorem d_chk_27 : decode method_7_code 27 = .ok (.aload_n 3, 1) := by decide +kernel
theorem d_chk_28 : decode method_7_code 28 = .ok (.invokevirtual 30, 3) := by decide +kernel
theorem d_chk_31 : decode method_7_code 31 = .ok (.ireturn, 1) := by decide +kernel
abbrev M_chk : o_7 := (Yn26, method_7_code, 4, (Option.some FieldType.boolean), ({ frames := 9, cells := 4, slots := 11, locals := 3100 } : Room))
theorem pn_chk : plainFor (o_7.y M_chk) = true := plainFor_of_name (by first | (simp [plainName, overriddenIn]; done) | decide +kernel)
theorem c_chk (K : o_b) (a0 : Array Value) (hw : ∀ d ∈ tables_1, d.before a0 K.Z = true) (hnw : K.nw = false) (hEL : EW K.Z a0 K.E) (hme : ("com/example/hand_balancer/handbalancer/cli/ArgumentsParsePinLaw", 24) ∈ K.E) (e : Addr) (SE : Sta K.Z K.Z.heap o_1q "EMPTY" "Ljava/util/Optional;" (.ref e)) (g : Int32) (SC : Sta K.Z K.Z.heap o_l "COMPACT_STRINGS" "Z" (.int g)) (hg : ¬ g = 0) (a ops m x vv : Addr) (s : Int32) (tb : Option Addr) (vs : List Value) (ent : Bool → o_0z) (b : Bool) (mo : Int32) (ds : List Int32) (h : Heap) (F : o_2i K.Z h a ops m s tb vs ent) (he : (mo = 0 ∧ ent b = none) ∨ (¬ mo = 0 ∧ ∃ n k v, ent b = some (n, k, v, ds))) (XE : Exa K.Z h e o_1q) (FE : Fld K.Z h e o_1q "value" o_0f .null) (S : o_0j K.Z h x (o_r b) 0) (V : o_h K.Z h vv ds) :
    o_9 K M_chk #[.ref a, .ref x, .int mo, .ref vv] [x] h (o_c fun w h' _ => w = .int 1 ∧ ∃ h0 h1 : Heap, Ext h h0 ∧ o_6o K.Z h0 h1 x (o_m (o_r b)) ∧ Ext h1 h') := by
  rcases he with ⟨rfl, he⟩ | ⟨hm, n, k, v, he⟩
  · skip
    refine o_3g (M := M_chk) pn_chk rfl (by first | rfl | exact o_5 (by assumption)) (by first | rfl | exact o_5 (by assumption)) (by first | rfl | exact o_5 (by assumption)) (by first | rfl | exact o_5 (by assumption)) ?_
    refine o_2 (pc' := 1) rfl d_chk_0 rfl ?_
    refine o_0k (pcT := 20) (pcF := 4) d_chk_1 (by decide) (by decide) rfl (fun q => ?_) (fun q => ?_)
    · exact absurd rfl q
    refine o_1 (pc' := 5) rfl d_chk_4 rfl (by first | rfl | assumption) ?_
    refine o_1 (pc' := 6) rfl d_chk_5 rfl (by first | rfl | assumption) ?_
    refine o_1c (pc' := 7) rfl d_chk_6 ?_
    refine o_8p (pc' := 8) rfl d_chk_7 ?_
    refine o_73 (M' := M_mil) d_chk_8 (pc' := 11) rfl (o_0 hw 216 rfl) (o_0 hw 217 rfl) (o_0 hw 219 rfl) (o_0 hw 218 rfl) (tw_128 hw) (o_0 hw 220 rfl) (by decide) rfl (o_6 pd_56 rfl) rfl rfl rfl rfl F.arg.1 (c_mil K a0 hw e SE g SC hg a ops m x s tb vs ent b h F he XE FE S) (by simp) ?_
    rintro w h1 xs1 ⟨rfl, q1⟩
    refine o_1x (pc' := 14) rfl d_chk_11 ?_
    refine o_4 (v := (1 : Int32)) (pc' := 15) rfl d_chk_14 rfl ?_
    refine o_o (pc' := 19) d_chk_15 (by decide) (by decide) ?_
    refine o_y (t := .boolean) rfl (by simp) (by first | exact o_0v | exact o_0w | rfl) d_chk_19 rfl rfl ?_
    exact ⟨rfl, h, h1, o_3y _, q1, o_3y _⟩
  · skip
    refine o_3g (M := M_chk) pn_chk rfl (by first | rfl | exact o_5 (by assumption)) (by first | rfl | exact o_5 (by assumption)) (by first | rfl | exact o_5 (by assumption)) (by first | rfl | exact o_5 (by assumption)) ?_
    refine o_2 (pc' := 1) rfl d_chk_0 rfl ?_
    refine o_0k (pcT := 20) (pcF := 4) d_chk_1 (by decide) (by decide) rfl (fun q => ?_) (fun q => ?_)
    rotate_left 1
    · exact absurd q hm
    refine o_1 (pc' := 21) rfl d_chk_20 rfl (by first | rfl | assumption) ?_
    refine o_1 (pc' := 22) rfl d_chk_21 rfl (by first | rfl | assumption) ?_
    refine o_4c (n := 4) hnw (pc' := 24) rfl d_chk_22 (hw _ (List.mem_of_getElem? (i := 543) rfl)) (o_3x hw) hEL hme (by decide +kernel) (by decide +kernel) (by decide +kernel) (by decide +kernel) (by decide +kernel) (by decide +kernel) (by decide +kernel) rfl rfl rfl ?_
    intro u h0 E0 U0
    refine o_2r (M' := M_req) d_chk_24 (pc' := 27) rfl (o_0 hw 544 rfl) (o_0 hw 545 rfl) (o_0 hw 547 rfl) (o_0 hw 546 rfl) (tw_128 hw) (o_0 hw 548 rfl) (by decide) rfl (o_6 pd_57 rfl) rfl rfl rfl rfl (F.arg.ext E0).1 (c_req K a0 hw g SC hg a ops m x u n k v s tb vs ent b ds h0 (F.ext E0) he (S.ext E0)) (by simp) ?_
    rintro w h2 xs2 ⟨h1, rfl, q1, E2, V2⟩
    have V3 : o_h K.Z h2 vv ds := (q1.elim (fun z => by rw [z]; exact V.ext E0) (fun W => (V.ext E0).hw hw (S.ext E0).2.2.2.1 W) : o_h K.Z h1 vv ds).ext E2
    refine o_1 (pc' := 28) rfl d_chk_27 rfl (by first | rfl | assumption) ?_
    refine o_0l (M' := M_seq) d_chk_28 (pc' := 31) rfl (tw_540 hw) (tw_541 hw) (tw_542 hw) (tw_117 hw) (tw_2 hw) (tw_118 hw) (by decide) rfl (o_6 pd_27 rfl) rfl rfl rfl rfl V2.1 (c_seq K a0 hw g SC hg v vv ds ds h2 V2 V3) (by simp) ?_
    rintro w h3 xs3 ⟨rfl, rfl⟩
    rw [if_pos rfl]
    refine o_y (t := .boolean) rfl (by simp) (by first | exact o_0v | exact o_0w | rfl) d_chk_31 rfl rfl ?_
    exact ⟨rfl, h0, h1, E0, q1, E2⟩
/-! the law: what it adds, what it expects -/
def o_w (b : Bool) (x : Addr) : List Value := if b then [.ref x] else []
def o_18 (mo : Int32) (f v : Addr) : List Value := if mo = 0 then [] else if mo = 1 then [.ref f] else [.ref f, .ref v]
def o_3c (b : Bool) (x : Addr) (cs : List Int32) : List o_1e := if b then [(x, none, cs)] else []
def o_2j (mo : Int32) (b : Bool) (f v : Addr) (cs : List Int32) : List o_1e := if mo = 0 then [] else if mo = 1 then [(f, some (b, none), cs)] else [(f, some (b, some v), cs)]
theorem o_25 (b : Bool) (x : Addr) : (o_w b x).length ≤ 1 := by cases b <;> simp [o_w]
theorem o_4v (mo : Int32) (f v : Addr) : (o_18 mo f v).length ≤ 2 := by unfold o_18; split; simp; split <;> simp
theorem o_97 (b : Bool) (x : Addr) (cs : List Int32) : (o_3c b x cs).flatMap o_3q = o_w b x := by cases b <;> rfl
theorem o_8r (b : Bool) (x : Addr) (cs : List Int32) : (o_3c b x cs).flatMap o_4f = o_w b x := by cases b <;> rfl
theorem o_5l (b : Bool) (x : Addr) (cs : List Int32) : (o_3c b x cs).length ≤ 1 := by cases b <;> simp [o_3c]
theorem o_9i (mo : Int32) (b : Bool) (f v : Addr) (cs : List Int32) : (o_2j mo b f v cs).flatMap o_3q = o_18 mo f v := by
  unfold o_2j o_18
  by_cases h0 : mo = 0
  · rw [if_pos h0, if_pos h0]; rfl
  · rw [if_neg h0, if_neg h0]
    by_cases h1 : mo = 1
    · rw [if_pos h1, if_pos h1]; rfl
    · rw [if_neg h1, if_neg h1]; rfl
theorem o_98 (mo : Int32) (b : Bool) (f v : Addr) (cs : List Int32) : (o_2j mo b f v cs).flatMap o_4f = [] := by
  unfold o_2j
  split
  · rfl
  · split <;> rfl
theorem o_6x (mo : Int32) (b : Bool) (f v : Addr) (cs : List Int32) : (o_2j mo b f v cs).length ≤ 1 := by unfold o_2j; split; simp; split <;> simp
theorem o_8s (a b : List o_1e) (c : Bool) : o_0t (a ++ b) c = o_0t a c + o_0t b c := by simp [o_0t, List.filter_append]
theorem o_99 (b : Bool) (x : Addr) (cs : List Int32) (c : Bool) : o_0t (o_3c b x cs) c = 0 := by cases b <;> simp [o_3c, o_0t, o_1o]
theorem o_6y (mo : Int32) (b : Bool) (f v : Addr) (cs : List Int32) (c : Bool) : o_0t (o_2j mo b f v cs) c ≤ if c = b then 1 else 0 := by
  unfold o_2j
  by_cases h : c = b
  · rw [if_pos h]
    split
    · simp [o_0t]
    · split <;> simp [o_0t, o_1o, h]
  · rw [if_neg h]
    have h' : ¬ b = c := fun z => h z.symm
    split
    · simp [o_0t]
    · split <;> simp [o_0t, o_1o, h']
def o_1b (its : List o_1e) (c : Bool) : Option o_1e := its.find? fun i => decide (o_1o i = some c)
theorem o_5v (a b : List o_1e) (c : Bool) : o_1b (a ++ b) c = (o_1b a c).or (o_1b b c) := by unfold o_1b; rw [List.find?_append]
theorem o_6a (b : Bool) (x : Addr) (cs : List Int32) (c : Bool) : o_1b (o_3c b x cs) c = none := by cases b <;> simp [o_3c, o_1b, o_1o]
theorem o_6b {mo : Int32} {b : Bool} {f v : Addr} {cs : List Int32} {c : Bool} (h : ¬ b = c) : o_1b (o_2j mo b f v cs) c = none := by
  unfold o_2j
  split
  · rfl
  · split <;> simp [o_1b, o_1o, h]
theorem o_6c {mo : Int32} {b : Bool} {f v : Addr} {cs : List Int32} {c : Bool} (h : mo = 0) : o_1b (o_2j mo b f v cs) c = none := by unfold o_2j; rw [if_pos h]; rfl
theorem o_6d {mo : Int32} {b : Bool} {f v : Addr} {cs : List Int32} (h : ¬ mo = 0) : ∃ i, o_1b (o_2j mo b f v cs) b = some i ∧ o_53 i = cs := by
  unfold o_2j
  rw [if_neg h]
  split
  · exact ⟨(f, some (b, none), cs), by simp [o_1b, o_1o], rfl⟩
  · exact ⟨(f, some (b, some v), cs), by simp [o_1b, o_1o], rfl⟩
theorem o_6p {its : List o_1e} {c : Bool} {r : o_0z} {ds : List Int32} {mo : Int32} (F : o_3r (fun _ => none) its c r) (h0 : mo = 0 → o_1b its c = none) (h1 : ¬ mo = 0 → ∃ i, o_1b its c = some i ∧ o_53 i = ds) : (mo = 0 ∧ r = none) ∨ (¬ mo = 0 ∧ ∃ n k v, r = some (n, k, v, ds)) := by
  unfold o_3r at F
  by_cases h : mo = 0
  · have e := h0 h
    unfold o_1b at e
    rw [e] at F
    exact Or.inl ⟨h, F⟩
  · obtain ⟨i, e, hi⟩ := h1 h
    unfold o_1b at e
    rw [e] at F
    obtain ⟨n, k, v, F⟩ := F
    exact Or.inr ⟨h, n, k, v, by rw [F, hi]⟩
theorem o_6z (p : Int32) : o_v p 0 = o_1h (o_0y p) (o_1s p) (o_2p p) := by
  unfold o_v o_3u
  rw [if_neg (fun z => z.1 rfl)]
theorem o_8t (p : Int32) : ¬ (o_v p 1).take 2 = [45, 45] := by
  intro h
  unfold o_v o_1h at h
  rcases o_51 (XT.ushr p 16) with e | e | e
  · rw [if_pos (show o_0y p = 0 from e)] at h
    simp at h
  · have e' : o_0y p = 1 := e
    rw [if_neg (by rw [e']; decide), if_pos e'] at h
    simp at h
  · have e' : o_0y p = 2 := e
    rw [if_neg (by rw [e']; decide), if_neg (by rw [e']; decide)] at h
    simp at h
    obtain ⟨h1, h2⟩ := h
    unfold o_3u at h2
    by_cases q : ¬ (1 : Int32) = 0 ∧ o_0y p = 2 ∧ o_1s p = 45 ∧ o_2p p = 45
    · rw [if_pos q] at h2
      exact absurd h2 (by decide)
    · rw [if_neg q] at h2
      exact q ⟨by decide, e', h1, h2⟩
/-- the list under way: h0 the heap ahead of it -/
def o_27 (Z : State) (h0 h : Heap) (sf : List Addr) (D l e : Addr) (xs : List Value) : Prop := Ext h0 h ∧ o_0s Z h D l e xs ∧ h0.size ≤ l ∧ (e ≠ D → h0.size ≤ e) ∧ l ∈ sf ∧ (e ≠ D → e ∈ sf)
theorem o_27.rfs {Z : State} {h0 h : Heap} {sf : List Addr} {D l e : Addr} {xs : List Value} (P : o_27 Z h0 h sf D l e xs) (z : e ≠ D) : o_02 Z h e o_0m (xs ++ List.replicate (10 - xs.length) .null) := P.2.1.2.2.2.2.2.elim (fun y => absurd y.1 z) (fun y => y.2)
theorem o_27.ne {Z : State} {a0 : Array Value} (hw : ∀ d ∈ tables_1, d.before a0 Z = true) {h0 h : Heap} {sf : List Addr} {D l e : Addr} {xs : List Value} (P : o_27 Z h0 h sf D l e xs) : e ≠ D → e ≠ l := fun z => o_19 (P.rfs z).ary P.2.1.1 (tw_61 hw)
theorem o_27.grow {Z : State} {h0 h h' : Heap} {sf sf' : List Addr} {D l e : Addr} {xs : List Value} (P : o_27 Z h0 h sf D l e xs) (E : Ext h h') (q : ∀ z ∈ sf, z ∈ sf') : o_27 Z h0 h' sf' D l e xs := ⟨o_t P.1 E, P.2.1.ext E, P.2.2.1, P.2.2.2.1, q _ P.2.2.2.2.1, fun z => q _ (P.2.2.2.2.2 z)⟩
theorem o_27.add {Z : State} {h0 h h' : Heap} {sf sf' : List Addr} {D l e e' : Addr} {xs : List Value} {v : Value} (P : o_27 Z h0 h sf D l e xs) (k : Keep h h' (o_1n D l e)) (L : o_0s Z h' D l e' (xs ++ [v])) (he : (e' = e ∧ e ≠ D) ∨ (e' ∈ sf' ∧ h.size ≤ e')) (q : ∀ z ∈ sf, z ∈ sf') : o_27 Z h0 h' sf' D l e' (xs ++ [v]) := by
  obtain ⟨p1, p2, p3, p4, p5, p6⟩ := P
  refine ⟨o_f p1 k ?_, L, p3, fun z => he.elim (fun y => by rw [y.1]; exact p4 y.2) (fun y => Nat.le_trans p1.1 y.2), q _ p5, fun z => he.elim (fun y => by rw [y.1]; exact q _ (p6 y.2)) (fun y => y.1)⟩
  intro z hz
  unfold o_1n at hz
  split at hz
  · cases List.mem_singleton.mp hz; exact p3
  · rename_i y
    simp only [List.mem_cons, List.not_mem_nil, or_false] at hz
    rcases hz with rfl | rfl
    · exact p3
    · exact p4 y
theorem o_27.str {Z : State} {a0 : Array Value} (hw : ∀ d ∈ tables_1, d.before a0 Z = true) {h0 h h' : Heap} {sf : List Addr} {D l e z : Addr} {xs : List Value} {cs : List Int32} (P : o_27 Z h0 h sf D l e xs) (k : Keep h h' (o_1n D l e)) (S : o_h Z h z cs) : o_h Z h' z cs :=
  S.kp k (o_31 (ne_exa S.1 P.2.1.1 (by decide)) (fun y => (o_19 (P.rfs y).ary S.1 (tw_10 hw)).symm)) (fun b c A => o_31 (fun y => ne_arr P.2.1.1 (tw_61 hw) A y.symm) (fun y => o_4i A (P.rfs y)))
/-- a flag's text -/
def o_55 (Z : State) (h : Heap) (mo : Int32) (b : Bool) (p : Int32) (f : Addr) : Prop := ¬ mo = 0 → o_h Z h f (o_1t b (decide (mo = 1)) p)
theorem o_5w {xs : List Value} {y : Value} (q : xs.length < 3) : (xs ++ List.replicate (3 - xs.length) Value.null).set xs.length y = (xs ++ [y]) ++ List.replicate (3 - (xs ++ [y]).length) .null := by
  rw [List.set_append_right _ _ (Nat.le_refl _), Nat.sub_self, List.length_append, List.length_singleton, List.append_assoc]
  obtain ⟨k, hk⟩ : ∃ k, 3 - xs.length = k + 1 := ⟨2 - xs.length, by omega⟩
  rw [hk, show 3 - (xs.length + 1) = k by omega, List.replicate_succ]
  rfl
theorem o_5m {n : Nat} (q : n < 100) : n.toInt32 + 1 = (n + 1).toInt32 := by
  apply Int32.toInt_inj.mp
  rw [o_20 (o_0o n (by omega)) (by rfl : (1 : Int32).toInt = 1), o_0o (n + 1) (by omega)] <;> omega
theorem o_70 {Z : State} {h : Heap} {mo : Int32} {b : Bool} {f v : Addr} {p : Int32} (hm : mo = 0 ∨ mo = 1 ∨ mo = 2) (F : o_55 Z h mo b p f) (V : o_h Z h v (o_v p 0)) : ∀ i ∈ o_2j mo b f v (o_v p 0), o_4y Z h i := by
  have ok := o_4j (n := o_0y p) (o_52 p) (o_5j p)
  rw [← o_6z] at ok
  rcases hm with rfl | rfl | rfl
  · intro i hi; cases hi
  · intro i hi
    have hi : i ∈ [((f, some (b, none), o_v p 0) : o_1e)] := hi
    cases List.mem_singleton.mp hi
    have F1 := F (by decide)
    have e : o_1t b (decide ((1 : Int32) = 1)) p = [45, 45] ++ o_r b ++ [61] ++ o_v p 0 := by rw [o_6z]; rfl
    rw [e] at F1
    exact ⟨F1, ok.2.1, ok.2.2⟩
  · intro i hi
    have hi : i ∈ [((f, some (b, some v), o_v p 0) : o_1e)] := hi
    cases List.mem_singleton.mp hi
    exact ⟨F (by decide), V⟩
theorem o_5x {Z : State} {h : Heap} {b : Bool} {x : Addr} {p : Int32} (S : o_h Z h x (o_v p 1)) : ∀ i ∈ o_3c b x (o_v p 1), o_4y Z h i := by
  have ok := o_4j (n := o_0y p) (o_52 p) (o_81 p 1)
  cases b
  · intro i hi; cases hi
  · intro i hi
    have hi : i ∈ [((x, none, o_v p 1) : o_1e)] := hi
    cases List.mem_singleton.mp hi
    exact ⟨S, ok.2.1, ok.2.2, o_8t p⟩
abbrev M_law : o_7 := (x, code, maxLocals, ret, room_1)
theorem pn_law : plainFor (o_7.y M_law) = true := plainFor_of_name (by first | (simp [plainName, overriddenIn]; done) | decide +kernel)
theorem c_law (K : o_b) (a0 : Array Value) (hw : ∀ d ∈ tables_1, d.before a0 K.Z = true) (hnw : K.nw = false) (hEL : EW K.Z a0 K.E) (hmA : (o_39, 36) ∈ K.E) (hmh : ("com/example/hand_balancer/handbalancer/cli/ArgumentsParsePinLaw", 24) ∈ K.E) (hme1 : ("com/example/hand_balancer/handbalancer/cli/ArgumentsParsePinLaw", 71) ∈ K.E) (hme : ("java/lang/String", 7) ∈ K.E) (hm2 : ("java/lang/StringLatin1", 151) ∈ K.E) (rf : Value) (hrf : rf.isRef = true) (SF : Sta K.Z K.Z.heap "jdk/internal/util/Preconditions" "SIOOBE_FORMATTER" "Ljava/util/function/BiFunction;" rf) (g : Int32) (SC : Sta K.Z K.Z.heap o_l "COMPACT_STRINGS" "Z" (.int g)) (hg : ¬ g = 0)
    (D : Addr) (SD : Sta K.Z K.Z.heap o_0r "DEFAULTCAPACITY_EMPTY_ELEMENTDATA" o_11 (.ref D)) (AD : o_g K.Z K.Z.heap D (.object o_0m) []) (mr : Addr) (G : o_3h K.Z o_11 mr) (E0 : Addr) (S0 : Sta K.Z K.Z.heap o_2q "EMPTY" o_0f (.ref E0)) (XE0 : Exa K.Z K.Z.heap E0 o_0m) (el : Addr) (SL : Sta K.Z K.Z.heap o_2q "EMPTY_LIST" "Ljava/util/ImmutableCollections$ListN;" (.ref el)) (LE : o_3b K.Z K.Z.heap el []) (eo : Addr) (SE : Sta K.Z K.Z.heap o_1q "EMPTY" "Ljava/util/Optional;" (.ref eo)) (XE : Exa K.Z K.Z.heap eo o_1q) (FE : Fld K.Z K.Z.heap eo o_1q "value" o_0f .null) (p0 p1 p2 p3 p4 p5 : Int32) :
    o_9 K M_law #[.int p0, .int p1, .int p2, .int p3, .int p4, .int p5] [] K.Z.heap (o_c fun w _ _ => w = .int 1) := by
  have v1 : (1 : Int32).toInt = 1 := rfl
  have lD : @LT.lt Nat _ D K.Z.heap.size := AD.lt
  have w0 : ∀ (n : Nat), n ≤ n := fun n => Nat.le_refl n
  have k14 : ∀ (sw : Bool) (sf : List Addr), o_3 K M_law (o_c fun w _ _ => w = .int 1) 14 [.val (.int p0), .val (.int p1), .val (.int p2), .val (.int p3), .val (.int p4), .val (.int p5), .val (.int (if sw then 1 else 0)), .unset, .unset, .unset, .unset, .unset, .unset, .unset, .unset, .unset, .unset, .unset, .unset, .unset, .unset, .unset, .unset, .unset, .unset, .unset] [] sf K.Z.heap 0 0 := by
    intro sw sf0
    refine o_u (v := (120 : Int32)) (pc' := 16) rfl at_14 rfl ?_
    refine o_03 (M' := M_svc) at_16 (pc' := 19) rfl (o_0 hw 0 rfl) (o_0 hw 1 rfl) (tw_2 hw) (o_0 hw 3 rfl) (by decide) rfl (o_6 pd_58 rfl) rfl rfl rfl rfl (c_svcH K a0 hw g SC hg 120 K.Z.heap (by decide) (by decide)) (by simp) ?_
    rintro w h1 xs1 ⟨x, rfl, E1, hx1, mx1, X1⟩
    refine o_41 (pc' := 21) rfl at_19 (by first | exact One.u | exact One.val rfl | assumption | exact One.val (by assumption)) (by first | rfl | assumption) ?_
    refine o_29 (pc' := 24) rfl at_21 (tw_26 hw) (tw_10 hw) (tw_2 hw) rfl rfl ?_
    intro y h2 ey E2 Y2 D2
    refine o_0a (pc' := 25) rfl at_24 (by first | rfl | assumption) ?_
    refine o_4 (v := (2 : Int32)) (pc' := 26) rfl at_25 rfl ?_
    refine o_1p (pc' := 28) rfl at_26 (tw_27 hw) (N := 2) (cap := 2) (by decide) (by decide) rfl rfl rfl ?_
    intro ar h3 er E3 A3
    have lh2 := E2.1
    have lh3 := E3.1
    have ly2 : @LT.lt Nat _ y h2.size := Y2.lt
    have nya : y ∉ [ar] := fun q => absurd (List.mem_singleton.mp q) (by show @Ne Nat y ar; omega)
    refine o_0a (pc' := 29) rfl at_28 (by first | rfl | assumption) ?_
    refine o_4 (v := (0 : Int32)) (pc' := 30) rfl at_29 rfl ?_
    refine o_u (v := (121 : Int32)) (pc' := 32) rfl at_30 rfl ?_
    refine o_05 (pc' := 33) rfl at_32 A3 (i := 0) (by decide) (by simp) rfl (by simp) ?_
    intro h4 k4 A4
    refine o_0a (pc' := 34) rfl at_33 (by first | rfl | assumption) ?_
    refine o_4 (v := (1 : Int32)) (pc' := 35) rfl at_34 rfl ?_
    refine o_u (v := (122 : Int32)) (pc' := 37) rfl at_35 rfl ?_
    refine o_05 (pc' := 38) rfl at_37 A4 (i := 1) (by decide) (by simp) rfl (by simp) ?_
    intro h5 k5 A5
    have E5 : Ext h1 h5 := o_f (o_f (o_t E2 E3) k4 (by intro z hz; cases List.mem_singleton.mp hz; omega)) k5 (by intro z hz; cases List.mem_singleton.mp hz; omega)
    have up : ∀ {nm d : String} {v : Value}, Fld K.Z h2 y o_l nm d v → Fld K.Z h5 y o_l nm d v := fun F => ((F.ext E3).keep k4 nya).keep k5 nya
    refine o_35 (M' := M_si1) at_38 (pc' := 41) rfl rfl rfl (tw_28 hw) (tw_29 hw) (tw_2 hw) (tw_30 hw) (by decide) rfl (o_6 pd_32 rfl) rfl rfl rfl rfl (c_si1H K a0 hw y ar g [121, 122] h5 (by decide) (by decide) (by intro c hc; simp only [List.mem_cons, List.not_mem_nil, or_false] at hc; rcases hc with rfl | rfl <;> decide) A5 (((Y2.ext E3).keep k4).keep k5) (up (D2 (Or.inr (tw_23 hw)) (ty := .array .byte) (by decide))) (up (D2 (Or.inr (tw_25 hw)) (ty := .byte) (by decide))) ⟨up (D2 (Or.inl (tw_430 hw)) (ty := .int) (by decide)), up (D2 (Or.inl (tw_432 hw)) (ty := .boolean) (by decide))⟩ SC hg (by decide)) (by simp) ?_
    rintro h6 xs6 ⟨k6, Y6⟩
    have E6 : Ext h1 h6 := o_f E5 k6 (by intro z hz; cases List.mem_singleton.mp hz; omega)
    have X6 := X1.ext E6
    have lx1 : @LT.lt Nat _ x h1.size := X1.str.lt
    have nxy : y ≠ x := by show @Ne Nat y x; show @Ne Nat y x; omega
    refine o_3m (pc' := 43) rfl at_41 (by first | exact One.u | exact One.val rfl | assumption | exact One.val (by assumption)) (by first | rfl | assumption) ?_
    refine o_2 (pc' := 44) rfl at_43 rfl ?_
    refine o_4 (v := (1 : Int32)) (pc' := 45) rfl at_44 rfl ?_
    refine o_0n (M' := M_lwd) at_45 (pc' := 48) rfl (tw_44 hw) (tw_45 hw) (tw_46 hw) (tw_47 hw) (by decide) rfl (o_6 pd_59 rfl) rfl rfl rfl rfl (c_lwd K a0 hw hnw hEL hme g SC hg p0 1 h6) (by simp) ?_
    rintro w h7 xs7 ⟨o1, rfl, E7, O1⟩
    refine o_7s (pc' := 50) rfl at_48 (by first | exact One.u | exact One.val rfl | assumption | exact One.val (by assumption)) (by first | rfl | assumption) ?_
    refine o_2 (pc' := 51) rfl at_50 rfl ?_
    refine o_4 (v := (1 : Int32)) (pc' := 52) rfl at_51 rfl ?_
    refine o_0n (M' := M_lwd) at_52 (pc' := 55) rfl (tw_44 hw) (tw_45 hw) (tw_46 hw) (tw_47 hw) (by decide) rfl (o_6 pd_59 rfl) rfl rfl rfl rfl (c_lwd K a0 hw hnw hEL hme g SC hg p2 1 h7) (by simp) ?_
    rintro w h8 xs8 ⟨o2, rfl, E8, O2⟩
    refine o_78 (pc' := 57) rfl at_55 (by first | exact One.u | exact One.val rfl | assumption | exact One.val (by assumption)) (by first | rfl | assumption) ?_
    refine o_a (pc' := 59) rfl at_57 rfl ?_
    refine o_4 (v := (1 : Int32)) (pc' := 60) rfl at_59 rfl ?_
    refine o_0n (M' := M_lwd) at_60 (pc' := 63) rfl (tw_44 hw) (tw_45 hw) (tw_46 hw) (tw_47 hw) (by decide) rfl (o_6 pd_59 rfl) rfl rfl rfl rfl (c_lwd K a0 hw hnw hEL hme g SC hg p4 1 h8) (by simp) ?_
    rintro w h9 xs9 ⟨o3, rfl, E9, O3⟩
    refine o_79 (pc' := 65) rfl at_63 (by first | exact One.u | exact One.val rfl | assumption | exact One.val (by assumption)) (by first | rfl | assumption) ?_
    refine o_2 (pc' := 66) rfl at_65 rfl ?_
    refine o_03 (M' := M_lpr) at_66 (pc' := 69) rfl (tw_54 hw) (tw_55 hw) (tw_46 hw) (tw_56 hw) (by decide) rfl (o_6 pd_36 rfl) rfl rfl rfl rfl (c_lpr K a0 hw p0 h9) (by simp) ?_
    rintro w h9a xs9a ⟨b1, rfl, rfl⟩
    refine o_7a (pc' := 71) rfl at_69 (by first | exact One.u | exact One.val rfl | assumption | exact One.val (by assumption)) ?_
    refine o_2 (pc' := 72) rfl at_71 rfl ?_
    refine o_03 (M' := M_lpr) at_72 (pc' := 75) rfl (tw_54 hw) (tw_55 hw) (tw_46 hw) (tw_56 hw) (by decide) rfl (o_6 pd_36 rfl) rfl rfl rfl rfl (c_lpr K a0 hw p2 _) (by simp) ?_
    rintro w h9b xs9b ⟨b2, rfl, rfl⟩
    refine o_7b (pc' := 77) rfl at_75 (by first | exact One.u | exact One.val rfl | assumption | exact One.val (by assumption)) ?_
    refine o_a (pc' := 79) rfl at_77 rfl ?_
    refine o_03 (M' := M_lpr) at_79 (pc' := 82) rfl (tw_54 hw) (tw_55 hw) (tw_46 hw) (tw_56 hw) (by decide) rfl (o_6 pd_36 rfl) rfl rfl rfl rfl (c_lpr K a0 hw p4 _) (by simp) ?_
    rintro w h9c xs9c ⟨b3, rfl, rfl⟩
    refine o_7c (pc' := 84) rfl at_82 (by first | exact One.u | exact One.val rfl | assumption | exact One.val (by assumption)) ?_
    refine o_2 (pc' := 85) rfl at_84 rfl ?_
    refine o_03 (M' := M_lmd) at_85 (pc' := 88) rfl (tw_57 hw) (tw_58 hw) (tw_46 hw) (tw_59 hw) (by decide) rfl (o_6 pd_33 rfl) rfl rfl rfl rfl (c_lmd K a0 hw p1 _) (by simp) ?_
    rintro w h9d xs9d ⟨rfl, rfl⟩
    refine o_7d (pc' := 90) rfl at_88 (by first | exact One.u | exact One.val rfl | assumption | exact One.val (by assumption)) ?_
    refine o_2 (pc' := 91) rfl at_90 rfl ?_
    refine o_03 (M' := M_lmd) at_91 (pc' := 94) rfl (tw_57 hw) (tw_58 hw) (tw_46 hw) (tw_59 hw) (by decide) rfl (o_6 pd_33 rfl) rfl rfl rfl rfl (c_lmd K a0 hw p3 _) (by simp) ?_
    rintro w h9e xs9e ⟨rfl, rfl⟩
    refine o_7e (pc' := 96) rfl at_94 (by first | exact One.u | exact One.val rfl | assumption | exact One.val (by assumption)) ?_
    refine o_2 (pc' := 97) rfl at_96 rfl ?_
    refine o_4 (v := (0 : Int32)) (pc' := 98) rfl at_97 rfl ?_
    refine o_0n (M' := M_lwd) at_98 (pc' := 101) rfl (tw_44 hw) (tw_45 hw) (tw_46 hw) (tw_47 hw) (by decide) rfl (o_6 pd_59 rfl) rfl rfl rfl rfl (c_lwd K a0 hw hnw hEL hme g SC hg p1 0 _) (by simp) ?_
    rintro w h10 xs10 ⟨vA, rfl, E10, VA⟩
    refine o_7f (pc' := 103) rfl at_101 (by first | exact One.u | exact One.val rfl | assumption | exact One.val (by assumption)) (by first | rfl | assumption) ?_
    refine o_2 (pc' := 104) rfl at_103 rfl ?_
    refine o_4 (v := (0 : Int32)) (pc' := 105) rfl at_104 rfl ?_
    refine o_0n (M' := M_lwd) at_105 (pc' := 108) rfl (tw_44 hw) (tw_45 hw) (tw_46 hw) (tw_47 hw) (by decide) rfl (o_6 pd_59 rfl) rfl rfl rfl rfl (c_lwd K a0 hw hnw hEL hme g SC hg p3 0 h10) (by simp) ?_
    rintro w h12 xs12 ⟨vB, rfl, E12, VB⟩
    have E8b := o_t E8 (o_t E9 (o_t E10 E12))
    have E6b := o_t E7 E8b
    have EZ : Ext K.Z.heap h12 := o_t E1 (o_t E6 E6b)
    have lZ := EZ.1
    have hX := X6.ext E6b
    have hY := Y6.ext E6b
    have hO1 := O1.ext E8b
    have hO2 := O2.ext (o_t E9 (o_t E10 E12))
    have hO3 := O3.ext (o_t E10 E12)
    have hVA := VA.ext E12
    refine o_7g (pc' := 110) rfl at_108 (by first | exact One.u | exact One.val rfl | assumption | exact One.val (by assumption)) (by first | rfl | assumption) ?_
    refine o_29 (pc' := 113) rfl at_110 (o_0 hw 60 rfl) (tw_61 hw) (tw_62 hw) rfl rfl ?_
    intro l h13 el' E13 X13 D13
    have W3 := (tw_61 hw)
    refine o_0a (pc' := 114) rfl at_113 (by first | rfl | assumption) ?_
    refine o_10 (M' := M_ai0) at_114 (pc' := 117) rfl rfl rfl (o_0 hw 63 rfl) (tw_64 hw) (tw_62 hw) (tw_65 hw) (by decide) rfl (o_6 pd_14 rfl) rfl rfl rfl rfl (c_ai0 K a0 hw D SD l h13 X13 (D13 (Or.inl (tw_80 hw)) (ty := .int) (by decide)) (D13 (Or.inl (tw_168 hw)) (ty := .int) (by decide)) (D13 (Or.inl (tw_83 hw)) (ty := .array (.object "java/lang/Object")) (by decide))) (by simp) ?_
    rintro h14 xs14 ⟨kk14, L14⟩
    have E14 : Ext h12 h14 := o_f E13 kk14 (by intro z hz; cases List.mem_singleton.mp hz; omega)
    have nDl : D ≠ l := by show @Ne Nat D l; show @Ne Nat D l; omega
    have AD12 := AD.ext EZ
    have k264 : ∀ (fA fB e : Addr) (h2 : Heap) (sf : List Addr), o_27 K.Z h12 h2 sf D l e (o_w b1 o1 ++ o_18 (o_j p1) fA vA ++ o_w b2 o2 ++ o_18 (o_j p3) fB vB ++ o_w b3 o3) → x ∈ sf → y ∈ sf → o_55 K.Z h2 (o_j p1) sw p1 fA → o_55 K.Z h2 (o_j p3) (!sw) p3 fB → o_3 K M_law (o_c fun w _ _ => w = .int 1) 264 [.val (.int p0), .val (.int p1), .val (.int p2), .val (.int p3), .val (.int p4), .val (.int p5), .val (.int (if sw then 1 else 0)), .val (.ref x), .val (.ref y), .val (.ref o1), .val (.ref o2), .val (.ref o3), .val (.int (if b1 then 1 else 0)), .val (.int (if b2 then 1 else 0)), .val (.int (if b3 then 1 else 0)), .val (.int (o_j p1)), .val (.int (o_j p3)), .val (.ref vA), .val (.ref vB), .val (.ref l), .unset, .unset, .unset, .unset, .unset, .unset] [] sf h2 58 280 := by
      intro fA fB e h2 sf P hxs hys KfA KfB
      have E2Z := o_t EZ P.1
      obtain ⟨its, eits⟩ : ∃ its, its = o_3c b1 o1 (o_v p0 1) ++ o_2j (o_j p1) sw fA vA (o_v p1 0) ++ o_3c b2 o2 (o_v p2 1) ++ o_2j (o_j p3) (!sw) fB vB (o_v p3 0) ++ o_3c b3 o3 (o_v p4 1) := ⟨_, rfl⟩
      have eX : o_w b1 o1 ++ o_18 (o_j p1) fA vA ++ o_w b2 o2 ++ o_18 (o_j p3) fB vB ++ o_w b3 o3 = its.flatMap o_3q := by rw [eits]; simp only [List.flatMap_append, o_97, o_9i]
      have eO : its.flatMap o_4f = o_w b1 o1 ++ o_w b2 o2 ++ o_w b3 o3 := by rw [eits]; simp only [List.flatMap_append, o_8r, o_98, List.append_nil]
      have hmA3 : o_j p1 = 0 ∨ o_j p1 = 1 ∨ o_j p1 = 2 := o_51 (XT.ushr p1 18)
      have hmB3 : o_j p3 = 0 ∨ o_j p3 = 1 ∨ o_j p3 = 2 := o_51 (XT.ushr p3 18)
      have hlen : its.length ≤ 5 := by
        have := o_5l b1 o1 (o_v p0 1)
        have := o_5l b2 o2 (o_v p2 1)
        have := o_5l b3 o3 (o_v p4 1)
        have := o_6x (o_j p1) sw fA vA (o_v p1 0)
        have := o_6x (o_j p3) (!sw) fB vB (o_v p3 0)
        rw [eits]; simp only [List.length_append]; omega
      have hu : ∀ b, o_0t its b ≤ 1 := by
        intro b
        have u1 := o_6y (o_j p1) sw fA vA (o_v p1 0) b
        have u2 := o_6y (o_j p3) (!sw) fB vB (o_v p3 0) b
        rw [eits]; simp only [o_8s, o_99]
        by_cases hb : b = sw
        · have hb2 : ¬ b = !sw := by rw [hb]; cases sw <;> decide
          rw [if_pos hb] at u1; rw [if_neg hb2] at u2; omega
        · rw [if_neg hb] at u1
          have u3 : (if b = !sw then 1 else 0) ≤ 1 := by split <;> omega
          omega
      have hok : ∀ i ∈ its, o_4y K.Z h2 i := by
        intro i hi
        rw [eits] at hi
        rcases List.mem_append.mp hi with hi | hi
        · rcases List.mem_append.mp hi with hi | hi
          · rcases List.mem_append.mp hi with hi | hi
            · rcases List.mem_append.mp hi with hi | hi
              · exact o_5x (hO1.ext P.1) i hi
              · exact o_70 hmA3 KfA (hVA.ext P.1) i hi
            · exact o_5x (hO2.ext P.1) i hi
          · exact o_70 hmB3 KfB (VB.ext P.1) i hi
        · exact o_5x (hO3.ext P.1) i hi
      refine o_d (pc' := 266) rfl at_264 rfl (by first | rfl | assumption) ?_
      refine o_d (pc' := 268) rfl at_266 rfl (by first | rfl | assumption) ?_
      refine o_d (pc' := 270) rfl at_268 rfl (by first | rfl | assumption) ?_
      refine o_0n (M' := M_sof) at_270 (pc' := 273) rfl (o_0 hw 84 rfl) (o_0 hw 85 rfl) (o_0 hw 86 rfl) (o_0 hw 87 rfl) (by decide) rfl (o_6 pd_60 rfl) rfl rfl rfl rfl (c_sof K a0 hw g SC hg x y [120] [121, 122] h2 (hX.ext P.1).str (hY.ext P.1).str (by decide)) (by simp) ?_
      rintro w h3 xs3 ⟨st, rfl, E3s, T3⟩
      have P3 := o_t P.1 E3s
      have hok3 : ∀ i ∈ its, o_4y K.Z h3 i := by
        intro i hi
        have z := hok i hi
        rcases i with ⟨x0, _ | ⟨b, _ | v⟩, c0⟩
        · exact ⟨z.1.ext E3s, z.2⟩
        · exact ⟨z.1.ext E3s, z.2⟩
        · exact ⟨z.1.ext E3s, z.2.ext E3s⟩
      refine o_0n (M' := M_par) at_273 (pc' := 276) rfl (o_0 hw 126 rfl) (o_0 hw 127 rfl) (tw_128 hw) (o_0 hw 129 rfl) (by decide) rfl (o_6 pd_61 rfl) rfl rfl rfl rfl (c_par K a0 hw hnw hEL hmA hm2 rf hrf SF D SD g SC hg l e st x y its _ h3 (AD12.ext P3) (P.2.1.ext E3s) eX hok3 T3 (hX.ext P3).str (hY.ext P3).str hu hlen) (by simp) ?_
      rintro w h4p xs4 ⟨a, ops, m, e4, s4, tb4, vs4, ent4, rfl, E4, G4, L4, M4, N4, F4⟩
      rw [eO] at L4
      have P4 := o_t P3 E4
      have PZ := o_t EZ P4
      have Fs4 : o_2i K.Z h4p a ops m s4 tb4 vs4 ent4 := ⟨G4, M4, N4⟩
      have heA : (o_j p1 = 0 ∧ ent4 sw = none) ∨ (¬ o_j p1 = 0 ∧ ∃ n k v, ent4 sw = some (n, k, v, o_v p1 0)) := by
        have fi : o_1b its sw = o_1b (o_2j (o_j p1) sw fA vA (o_v p1 0)) sw := by
          rw [eits]; simp only [o_5v, o_6a, o_6b (show ¬ (!sw) = sw by cases sw <;> decide), Option.or_none, Option.none_or]
        exact o_6p (F4 sw) (fun z => by rw [fi]; exact o_6c z) (fun z => by rw [fi]; exact o_6d z)
      have heB : (o_j p3 = 0 ∧ ent4 (!sw) = none) ∨ (¬ o_j p3 = 0 ∧ ∃ n k v, ent4 (!sw) = some (n, k, v, o_v p3 0)) := by
        have fi : o_1b its (!sw) = o_1b (o_2j (o_j p3) (!sw) fB vB (o_v p3 0)) (!sw) := by
          rw [eits]; simp only [o_5v, o_6a, o_6b (show ¬ sw = !sw by cases sw <;> decide), Option.or_none, Option.none_or]
        exact o_6p (F4 (!sw)) (fun z => by rw [fi]; exact o_6c z) (fun z => by rw [fi]; exact o_6d z)
      have hO1p := hO1.ext P4
      have hO2p := hO2.ext P4
      have hO3p := hO3.ext P4
      have hOS : ∀ v ∈ o_w b1 o1 ++ o_w b2 o2 ++ o_w b3 o3, ∃ z cs, v = .ref z ∧ o_h K.Z h4p z cs := by
        have one : ∀ (b : Bool) (o : Addr) (cs : List Int32), o_h K.Z h4p o cs → ∀ v ∈ o_w b o, ∃ z cs, v = .ref z ∧ o_h K.Z h4p z cs := by
          intro b o cs S v hv
          cases b
          · cases hv
          · cases List.mem_singleton.mp hv; exact ⟨o, cs, rfl, S⟩
        intro v hv
        rcases List.mem_append.mp hv with hv | hv
        · rcases List.mem_append.mp hv with hv | hv
          · exact one _ _ _ hO1p v hv
          · exact one _ _ _ hO2p v hv
        · exact one _ _ _ hO3p v hv
      have hOl : (o_w b1 o1 ++ o_w b2 o2 ++ o_w b3 o3).length ≤ 3 := by
        have := o_25 b1 o1
        have := o_25 b2 o2
        have := o_25 b3 o3
        first | omega | (simp only [List.length_append] <;> omega)
      refine o_7i (pc' := 278) rfl at_276 (by first | exact One.u | exact One.val rfl | assumption | exact One.val (by assumption)) (by first | rfl | assumption) ?_
      refine o_4 (v := (3 : Int32)) (pc' := 279) rfl at_278 rfl ?_
      refine o_37 (pc' := 282) rfl at_279 (tw_26 hw) (o_0 hw 169 rfl) (N := 3) (cap := 3) (by decide) (by decide) rfl rfl rfl ?_
      intro ex h5p ee5 E5p R5
      refine o_7j (pc' := 284) rfl at_282 (by first | exact One.u | exact One.val rfl | assumption | exact One.val (by assumption)) (by first | rfl | assumption) ?_
      refine o_4 (v := (0 : Int32)) (pc' := 285) rfl at_284 rfl ?_
      refine o_7k (pc' := 287) rfl at_285 (by first | exact One.u | exact One.val rfl | assumption | exact One.val (by assumption)) ?_
      have hxs4 : x ∈ ex :: (xs4 ++ (xs3 ++ sf)) := by simp [hxs]
      have hys4 : y ∈ ex :: (xs4 ++ (xs3 ++ sf)) := by simp [hys]
      have k332 : ∀ (n : Int32) (h6 : Heap) (sf6 : List Addr), n = (o_w b1 o1 ++ o_w b2 o2 ++ o_w b3 o3).length.toInt32 → Ext h4p h6 → o_02 K.Z h6 ex o_l ((o_w b1 o1 ++ o_w b2 o2 ++ o_w b3 o3) ++ List.replicate (3 - (o_w b1 o1 ++ o_w b2 o2 ++ o_w b3 o3).length) .null) → ex ∈ sf6 → x ∈ sf6 → y ∈ sf6 → o_3 K M_law (o_c fun w _ _ => w = .int 1) 332 [.val (.int p0), .val (.int p1), .val (.int p2), .val (.int p3), .val (.int p4), .val (.int p5), .val (.int (if sw then 1 else 0)), .val (.ref x), .val (.ref y), .val (.ref o1), .val (.ref o2), .val (.ref o3), .val (.int (if b1 then 1 else 0)), .val (.int (if b2 then 1 else 0)), .val (.int (if b3 then 1 else 0)), .val (.int (o_j p1)), .val (.int (o_j p3)), .val (.ref vA), .val (.ref vB), .val (.ref l), .val (.ref a), .val (.ref ex), .val (.int n), .unset, .unset, .unset] [] sf6 h6 103 578 := by
        intro n h6 sf6 hn E6p R6 hex hxs6 hys6
        refine o_d (pc' := 334) rfl at_332 rfl (by first | rfl | assumption) ?_
        refine o_a (pc' := 336) rfl at_334 rfl ?_
        refine o_4c (n := 4) hnw (pc' := 338) rfl at_336 (hw _ (List.mem_of_getElem? (i := 170) rfl)) (o_3x hw) hEL hme1 (by decide +kernel) (by decide +kernel) (by decide +kernel) (by decide +kernel) (by decide +kernel) (by decide +kernel) (by decide +kernel) rfl rfl rfl ?_
        intro ue h7p E7p U7
        have E47 := o_t E6p E7p
        refine o_2r (M' := M_opr) at_338 (pc' := 341) rfl (o_0 hw 171 rfl) (o_0 hw 172 rfl) (o_0 hw 174 rfl) (o_0 hw 173 rfl) (tw_128 hw) (o_0 hw 175 rfl) (by decide) rfl (o_6 pd_62 rfl) rfl rfl rfl rfl (G4.ext E47).1 (c_opr K a0 hw mr G E0 S0 el SL D a ops m e4 ue _ n h7p hn (LE.ext (o_t PZ E47)) (G4.ext E47) (L4.ext E47) hOl (by intro v hv; obtain ⟨z, cs, e, S⟩ := hOS v hv; exact ⟨z, e, ne_exa (S.ext E47).1 (XE0.ext (o_t PZ E47)) (by decide), Ins.of_exa (S.ext E47).1 (tw_285 hw)⟩)) (by simp) ?_
        rintro w h8p xs8 ⟨t, rfl, E8p, I8⟩
        have E48 := o_t E47 E8p
        have R8 := (R6.ext E7p).ext E8p
        have P48 := o_t P4 E48
        have Z48 := o_t PZ E48
        refine o_7l (pc' := 343) rfl at_341 (by first | exact One.u | exact One.val rfl | assumption | exact One.val (by assumption)) (by first | rfl | assumption) ?_
        refine o_d (pc' := 345) rfl at_343 rfl (by first | rfl | assumption) ?_
        have k443 : ∀ (sf8 : List Addr), x ∈ sf8 → y ∈ sf8 → o_3 K M_law (o_c fun w _ _ => w = .int 1) 443 [.val (.int p0), .val (.int p1), .val (.int p2), .val (.int p3), .val (.int p4), .val (.int p5), .val (.int (if sw then 1 else 0)), .val (.ref x), .val (.ref y), .val (.ref o1), .val (.ref o2), .val (.ref o3), .val (.int (if b1 then 1 else 0)), .val (.int (if b2 then 1 else 0)), .val (.int (if b3 then 1 else 0)), .val (.int (o_j p1)), .val (.int (o_j p3)), .val (.ref vA), .val (.ref vB), .val (.ref l), .val (.ref a), .val (.ref ex), .val (.int n), .val (.ref t), .val (.int 1), .unset] [] sf8 h8p 108 594 := by
          intro sf8 hxs8 hys8
          have Fs8 := Fs4.ext E48
          have X8 := hX.ext P48
          have Y8 := hY.ext P48
          have XE8 := XE.ext Z48
          have FE8 := FE.ext Z48
          refine o_d (pc' := 445) rfl at_443 rfl (by first | rfl | assumption) ?_
          refine o_a (pc' := 447) rfl at_445 rfl ?_
          cases sw
          · skip
            refine o_k (pcT := 455) (pcF := 450) at_447 (by decide) (by decide) rfl (fun z1 => ?_) (fun z1 => ?_)
            rotate_left 1
            · first | exact absurd z1 (by decide) | exact absurd (by decide) z1
            refine o_d (pc' := 457) rfl at_455 rfl (by first | rfl | assumption) ?_
            refine o_a (pc' := 459) rfl at_457 rfl ?_
            refine o_d (pc' := 461) rfl at_459 rfl (by first | rfl | assumption) ?_
            refine o_2d (M' := M_chk) at_461 (pc' := 464) rfl (tw_213 hw) (tw_214 hw) (tw_46 hw) (tw_215 hw) (by decide) rfl (o_6 pd_63 rfl) rfl rfl rfl rfl (c_chk K a0 hw hnw hEL hmh eo SE g SC hg a ops m x vA s4 tb4 vs4 ent4 false (o_j p1) (o_v p1 0) h8p Fs8 heA XE8 FE8 X8 (hVA.ext P48)) (by intro z hz; cases List.mem_singleton.mp hz; exact hxs8) ?_
            rintro w h9p xs9p ⟨rfl, ha, hb, Ea, qh, Eb⟩
            have kh := o_50 qh
            have X1a := (X8.ext Ea).2.2.2.1
            have Fs9 := ((Fs8.ext Ea).hw hw X1a qh).ext Eb
            have XE9 := ((XE8.ext Ea).keep kh).ext Eb
            have FE9 := ((FE8.ext Ea).keep kh (fun z => ne_exa (XE8.ext Ea) X1a (by decide) (List.mem_singleton.mp z))).ext Eb
            have H9 := ((Y8.ext Ea).keep kh (fun z => nxy (List.mem_singleton.mp z)) (fun b c A z => ne_arr X1a (tw_10 hw) A (List.mem_singleton.mp z).symm)).ext Eb
            have V9 : o_h K.Z h9p vB (o_v p3 0) := (qh.elim (fun z => by rw [z]; exact (VB.ext P48).ext Ea) (fun W => ((VB.ext P48).ext Ea).hw hw X1a W) : o_h K.Z hb vB (o_v p3 0)).ext Eb
            refine o_k (pcT := 495) (pcF := 467) at_464 (by decide) (by decide) rfl (fun z2 => ?_) (fun z2 => ?_)
            · exact absurd z2 (by decide)
            refine o_d (pc' := 469) rfl at_467 rfl (by first | rfl | assumption) ?_
            refine o_a (pc' := 471) rfl at_469 rfl ?_
            refine o_k (pcT := 479) (pcF := 474) at_471 (by decide) (by decide) rfl (fun z3 => ?_) (fun z3 => ?_)
            rotate_left 1
            · first | exact absurd z3 (by decide) | exact absurd (by decide) z3
            refine o_d (pc' := 481) rfl at_479 rfl (by first | rfl | assumption) ?_
            refine o_a (pc' := 483) rfl at_481 rfl ?_
            refine o_d (pc' := 485) rfl at_483 rfl (by first | rfl | assumption) ?_
            refine o_2d (M' := M_chk) at_485 (pc' := 488) rfl (tw_213 hw) (tw_214 hw) (tw_46 hw) (tw_215 hw) (by decide) rfl (o_6 pd_63 rfl) rfl rfl rfl rfl (c_chk K a0 hw hnw hEL hmh eo SE g SC hg a ops m y vB s4 tb4 vs4 ent4 true (o_j p3) (o_v p3 0) h9p Fs9 heB XE9 FE9 H9 V9) (by intro z hz; cases List.mem_singleton.mp hz; exact List.mem_append_right _ hys8) ?_
            rintro w hA xsA ⟨rfl, -⟩
            refine o_k (pcT := 495) (pcF := 491) at_488 (by decide) (by decide) rfl (fun z4 => ?_) (fun z4 => ?_)
            · exact absurd z4 (by decide)
            refine o_4 (v := (1 : Int32)) (pc' := 492) rfl at_491 rfl ?_
            refine o_o (pc' := 496) at_492 (by decide) (by decide) ?_
            refine o_5o (pc' := 498) rfl at_496 (by first | exact One.u | exact One.val rfl | assumption | exact One.val (by assumption)) ?_
            refine o_a (pc' := 500) rfl at_498 rfl ?_
            refine o_k (pcT := 512) (pcF := 503) at_500 (by decide) (by decide) rfl (fun z5 => ?_) (fun z5 => ?_)
            · exact absurd z5 (by decide)
            refine o_a (pc' := 505) rfl at_503 rfl ?_
            refine o_k (pcT := 512) (pcF := 508) at_505 (by decide) (by decide) rfl (fun z6 => ?_) (fun z6 => ?_)
            · exact absurd z6 (by decide)
            refine o_4 (v := (1 : Int32)) (pc' := 509) rfl at_508 rfl ?_
            refine o_o (pc' := 513) at_509 (by decide) (by decide) ?_
            refine o_y (t := .boolean) rfl (by simp) (by first | exact o_0v | exact o_0w | rfl) at_513 rfl rfl ?_
            rfl
          · skip
            refine o_k (pcT := 455) (pcF := 450) at_447 (by decide) (by decide) rfl (fun z1 => ?_) (fun z1 => ?_)
            · first | exact absurd z1 (by decide) | exact absurd (by decide) z1
            refine o_d (pc' := 452) rfl at_450 rfl (by first | rfl | assumption) ?_
            refine o_o (pc' := 457) at_452 (by decide) (by decide) ?_
            refine o_a (pc' := 459) rfl at_457 rfl ?_
            refine o_d (pc' := 461) rfl at_459 rfl (by first | rfl | assumption) ?_
            refine o_2d (M' := M_chk) at_461 (pc' := 464) rfl (tw_213 hw) (tw_214 hw) (tw_46 hw) (tw_215 hw) (by decide) rfl (o_6 pd_63 rfl) rfl rfl rfl rfl (c_chk K a0 hw hnw hEL hmh eo SE g SC hg a ops m y vA s4 tb4 vs4 ent4 true (o_j p1) (o_v p1 0) h8p Fs8 heA XE8 FE8 Y8 (hVA.ext P48)) (by intro z hz; cases List.mem_singleton.mp hz; exact hys8) ?_
            rintro w h9p xs9p ⟨rfl, ha, hb, Ea, qh, Eb⟩
            have kh := o_50 qh
            have X1a := (Y8.ext Ea).2.2.2.1
            have Fs9 := ((Fs8.ext Ea).hw hw X1a qh).ext Eb
            have XE9 := ((XE8.ext Ea).keep kh).ext Eb
            have FE9 := ((FE8.ext Ea).keep kh (fun z => ne_exa (XE8.ext Ea) X1a (by decide) (List.mem_singleton.mp z))).ext Eb
            have H9 := ((X8.ext Ea).keep kh (fun z => nxy.symm (List.mem_singleton.mp z)) (fun b c A z => ne_arr X1a (tw_10 hw) A (List.mem_singleton.mp z).symm)).ext Eb
            have V9 : o_h K.Z h9p vB (o_v p3 0) := (qh.elim (fun z => by rw [z]; exact (VB.ext P48).ext Ea) (fun W => ((VB.ext P48).ext Ea).hw hw X1a W) : o_h K.Z hb vB (o_v p3 0)).ext Eb
            refine o_k (pcT := 495) (pcF := 467) at_464 (by decide) (by decide) rfl (fun z2 => ?_) (fun z2 => ?_)
            · exact absurd z2 (by decide)
            refine o_d (pc' := 469) rfl at_467 rfl (by first | rfl | assumption) ?_
            refine o_a (pc' := 471) rfl at_469 rfl ?_
            refine o_k (pcT := 479) (pcF := 474) at_471 (by decide) (by decide) rfl (fun z3 => ?_) (fun z3 => ?_)
            · first | exact absurd z3 (by decide) | exact absurd (by decide) z3
            refine o_d (pc' := 476) rfl at_474 rfl (by first | rfl | assumption) ?_
            refine o_o (pc' := 481) at_476 (by decide) (by decide) ?_
            refine o_a (pc' := 483) rfl at_481 rfl ?_
            refine o_d (pc' := 485) rfl at_483 rfl (by first | rfl | assumption) ?_
            refine o_2d (M' := M_chk) at_485 (pc' := 488) rfl (tw_213 hw) (tw_214 hw) (tw_46 hw) (tw_215 hw) (by decide) rfl (o_6 pd_63 rfl) rfl rfl rfl rfl (c_chk K a0 hw hnw hEL hmh eo SE g SC hg a ops m x vB s4 tb4 vs4 ent4 false (o_j p3) (o_v p3 0) h9p Fs9 heB XE9 FE9 H9 V9) (by intro z hz; cases List.mem_singleton.mp hz; exact List.mem_append_right _ hxs8) ?_
            rintro w hA xsA ⟨rfl, -⟩
            refine o_k (pcT := 495) (pcF := 491) at_488 (by decide) (by decide) rfl (fun z4 => ?_) (fun z4 => ?_)
            · exact absurd z4 (by decide)
            refine o_4 (v := (1 : Int32)) (pc' := 492) rfl at_491 rfl ?_
            refine o_o (pc' := 496) at_492 (by decide) (by decide) ?_
            refine o_5o (pc' := 498) rfl at_496 (by first | exact One.u | exact One.val rfl | assumption | exact One.val (by assumption)) ?_
            refine o_a (pc' := 500) rfl at_498 rfl ?_
            refine o_k (pcT := 512) (pcF := 503) at_500 (by decide) (by decide) rfl (fun z5 => ?_) (fun z5 => ?_)
            · exact absurd z5 (by decide)
            refine o_a (pc' := 505) rfl at_503 rfl ?_
            refine o_k (pcT := 512) (pcF := 508) at_505 (by decide) (by decide) rfl (fun z6 => ?_) (fun z6 => ?_)
            · exact absurd z6 (by decide)
            refine o_4 (v := (1 : Int32)) (pc' := 509) rfl at_508 rfl ?_
            refine o_o (pc' := 513) at_509 (by decide) (by decide) ?_
            refine o_y (t := .boolean) rfl (by simp) (by first | exact o_0v | exact o_0w | rfl) at_513 rfl rfl ?_
            rfl
        rcases I8 with ⟨x1, e1, T⟩ | ⟨x1, y1, e1, ny, T⟩ | ⟨n3, T⟩
        · skip
          obtain ⟨c0, Sq0⟩ : ∃ cs, o_h K.Z h8p x1 cs := by
            obtain ⟨z, cs, ez, S⟩ := hOS (.ref x1) (by rw [e1]; simp)
            cases ez
            exact ⟨cs, S.ext E48⟩
          obtain rfl : n = 1 := by rw [hn, e1]; rfl
          rw [e1] at R8
          refine o_2y (M' := M_l2s) at_345 (pc' := 350) rfl (tw_203 hw) (tw_159 hw) (tw_160 hw) rfl (tw_585 hw) (tw_586 hw) (tw_587 hw) (tw_588 hw) (tw_589 hw) (tw_571 hw) (tw_590 hw) (by decide) rfl (o_6 pd_13 rfl) rfl rfl rfl rfl T.1 (c_l2s K a0 hw E0 S0 t x1 E0 h8p T) (by simp) ?_
          rintro w hs xss ⟨rfl, rfl⟩
          rw [if_pos rfl]
          refine o_a (pc' := 352) rfl at_350 rfl ?_
          refine o_07 (pcT := 440) (pcF := 355) at_352 (by decide) (by decide) rfl (fun yy0 => ?_) (fun yy0 => ?_)
          · first | exact absurd rfl yy0 | exact absurd (by decide) yy0
          refine o_a (pc' := 357) rfl at_355 rfl ?_
          refine o_4 (v := (1 : Int32)) (pc' := 358) rfl at_357 rfl ?_
          refine o_1g (pcT := 382) (pcF := 361) at_358 (by decide) (by decide) rfl (fun yy1 => ?_) (fun yy1 => ?_)
          · exact absurd yy1 (by decide)
          refine o_d (pc' := 363) rfl at_361 rfl (by first | rfl | assumption) ?_
          refine o_4 (v := (0 : Int32)) (pc' := 364) rfl at_363 rfl ?_
          refine o_0u (M' := M_l2g) at_364 (pc' := 369) rfl (tw_534 hw) (tw_290 hw) (tw_291 hw) rfl (tw_592 hw) (tw_593 hw) (tw_594 hw) (tw_595 hw) (tw_589 hw) (tw_571 hw) (tw_596 hw) (by decide) rfl (o_6 pd_17 rfl) rfl rfl rfl rfl T.1 (c_l2g0 K a0 hw t x1 E0 _ T) (by simp) ?_
          rintro w hg0 xsg0 ⟨rfl, rfl⟩
          refine o_24 (pc' := 372) rfl at_369 (tw_26 hw) (Ins.self Sq0.1) ?_
          refine o_d (pc' := 374) rfl at_372 rfl (by first | rfl | assumption) ?_
          refine o_4 (v := (0 : Int32)) (pc' := 375) rfl at_374 rfl ?_
          refine o_15 (pc' := 376) rfl at_375 rfl R8.ary (i := 0) (by decide) rfl ?_
          refine o_0l (M' := M_seq) at_376 (pc' := 379) rfl (tw_540 hw) (tw_541 hw) (tw_542 hw) (tw_117 hw) (tw_2 hw) (tw_118 hw) (by decide) rfl (o_6 pd_27 rfl) rfl rfl rfl rfl Sq0.1 (c_seq K a0 hw g SC hg x1 x1 c0 c0 _ Sq0 Sq0) (by simp) ?_
          rintro w he0 xse0 ⟨rfl, rfl⟩
          rw [if_pos rfl]
          refine o_k (pcT := 440) (pcF := 382) at_379 (by decide) (by decide) rfl (fun u0 => ?_) (fun u0 => ?_)
          · exact absurd u0 (by decide)
          refine o_a (pc' := 384) rfl at_382 rfl ?_
          refine o_4 (v := (2 : Int32)) (pc' := 385) rfl at_384 rfl ?_
          refine o_1g (pcT := 409) (pcF := 388) at_385 (by decide) (by decide) rfl (fun yy2 => ?_) (fun yy2 => ?_)
          rotate_left 1
          · exact absurd (by decide) yy2
          refine o_a (pc' := 411) rfl at_409 rfl ?_
          refine o_4 (v := (3 : Int32)) (pc' := 412) rfl at_411 rfl ?_
          refine o_1g (pcT := 436) (pcF := 415) at_412 (by decide) (by decide) rfl (fun yy3 => ?_) (fun yy3 => ?_)
          rotate_left 1
          · exact absurd (by decide) yy3
          refine o_4 (v := (1 : Int32)) (pc' := 437) rfl at_436 rfl ?_
          refine o_o (pc' := 441) at_437 (by decide) (by decide) ?_
          refine o_3w (pc' := 443) rfl at_441 (by first | exact One.u | exact One.val rfl | assumption | exact One.val (by assumption)) ?_
          exact o_s (k443 _ (by simp [hxs6]) (by simp [hys6])) (fun z hz => hz) (by exact Nat.le_of_ble_eq_true rfl) (by exact Nat.le_of_ble_eq_true rfl)
        · skip
          obtain ⟨c0, Sq0⟩ : ∃ cs, o_h K.Z h8p x1 cs := by
            obtain ⟨z, cs, ez, S⟩ := hOS (.ref x1) (by rw [e1]; simp)
            cases ez
            exact ⟨cs, S.ext E48⟩
          obtain ⟨c1, Sq1⟩ : ∃ cs, o_h K.Z h8p y1 cs := by
            obtain ⟨z, cs, ez, S⟩ := hOS (.ref y1) (by rw [e1]; simp)
            cases ez
            exact ⟨cs, S.ext E48⟩
          obtain rfl : n = 2 := by rw [hn, e1]; rfl
          rw [e1] at R8
          refine o_2y (M' := M_l2s) at_345 (pc' := 350) rfl (tw_203 hw) (tw_159 hw) (tw_160 hw) rfl (tw_585 hw) (tw_586 hw) (tw_587 hw) (tw_588 hw) (tw_589 hw) (tw_571 hw) (tw_590 hw) (by decide) rfl (o_6 pd_13 rfl) rfl rfl rfl rfl T.1 (c_l2s K a0 hw E0 S0 t x1 y1 h8p T) (by simp) ?_
          rintro w hs xss ⟨rfl, rfl⟩
          rw [if_neg ny]
          refine o_a (pc' := 352) rfl at_350 rfl ?_
          refine o_07 (pcT := 440) (pcF := 355) at_352 (by decide) (by decide) rfl (fun yy0 => ?_) (fun yy0 => ?_)
          · first | exact absurd rfl yy0 | exact absurd (by decide) yy0
          refine o_a (pc' := 357) rfl at_355 rfl ?_
          refine o_4 (v := (1 : Int32)) (pc' := 358) rfl at_357 rfl ?_
          refine o_1g (pcT := 382) (pcF := 361) at_358 (by decide) (by decide) rfl (fun yy1 => ?_) (fun yy1 => ?_)
          · exact absurd yy1 (by decide)
          refine o_d (pc' := 363) rfl at_361 rfl (by first | rfl | assumption) ?_
          refine o_4 (v := (0 : Int32)) (pc' := 364) rfl at_363 rfl ?_
          refine o_0u (M' := M_l2g) at_364 (pc' := 369) rfl (tw_534 hw) (tw_290 hw) (tw_291 hw) rfl (tw_592 hw) (tw_593 hw) (tw_594 hw) (tw_595 hw) (tw_589 hw) (tw_571 hw) (tw_596 hw) (by decide) rfl (o_6 pd_17 rfl) rfl rfl rfl rfl T.1 (c_l2g0 K a0 hw t x1 y1 _ T) (by simp) ?_
          rintro w hg0 xsg0 ⟨rfl, rfl⟩
          refine o_24 (pc' := 372) rfl at_369 (tw_26 hw) (Ins.self Sq0.1) ?_
          refine o_d (pc' := 374) rfl at_372 rfl (by first | rfl | assumption) ?_
          refine o_4 (v := (0 : Int32)) (pc' := 375) rfl at_374 rfl ?_
          refine o_15 (pc' := 376) rfl at_375 rfl R8.ary (i := 0) (by decide) rfl ?_
          refine o_0l (M' := M_seq) at_376 (pc' := 379) rfl (tw_540 hw) (tw_541 hw) (tw_542 hw) (tw_117 hw) (tw_2 hw) (tw_118 hw) (by decide) rfl (o_6 pd_27 rfl) rfl rfl rfl rfl Sq0.1 (c_seq K a0 hw g SC hg x1 x1 c0 c0 _ Sq0 Sq0) (by simp) ?_
          rintro w he0 xse0 ⟨rfl, rfl⟩
          rw [if_pos rfl]
          refine o_k (pcT := 440) (pcF := 382) at_379 (by decide) (by decide) rfl (fun u0 => ?_) (fun u0 => ?_)
          · exact absurd u0 (by decide)
          refine o_a (pc' := 384) rfl at_382 rfl ?_
          refine o_4 (v := (2 : Int32)) (pc' := 385) rfl at_384 rfl ?_
          refine o_1g (pcT := 409) (pcF := 388) at_385 (by decide) (by decide) rfl (fun yy2 => ?_) (fun yy2 => ?_)
          · exact absurd yy2 (by decide)
          refine o_d (pc' := 390) rfl at_388 rfl (by first | rfl | assumption) ?_
          refine o_4 (v := (1 : Int32)) (pc' := 391) rfl at_390 rfl ?_
          refine o_0u (M' := M_l2g) at_391 (pc' := 396) rfl (tw_534 hw) (tw_290 hw) (tw_291 hw) rfl (tw_592 hw) (tw_593 hw) (tw_594 hw) (tw_595 hw) (tw_589 hw) (tw_571 hw) (tw_596 hw) (by decide) rfl (o_6 pd_17 rfl) rfl rfl rfl rfl T.1 (c_l2g1 K a0 hw E0 S0 t x1 y1 _ T ny) (by simp) ?_
          rintro w hg1 xsg1 ⟨rfl, rfl⟩
          refine o_24 (pc' := 399) rfl at_396 (tw_26 hw) (Ins.self Sq1.1) ?_
          refine o_d (pc' := 401) rfl at_399 rfl (by first | rfl | assumption) ?_
          refine o_4 (v := (1 : Int32)) (pc' := 402) rfl at_401 rfl ?_
          refine o_15 (pc' := 403) rfl at_402 rfl R8.ary (i := 1) (by decide) rfl ?_
          refine o_0l (M' := M_seq) at_403 (pc' := 406) rfl (tw_540 hw) (tw_541 hw) (tw_542 hw) (tw_117 hw) (tw_2 hw) (tw_118 hw) (by decide) rfl (o_6 pd_27 rfl) rfl rfl rfl rfl Sq1.1 (c_seq K a0 hw g SC hg y1 y1 c1 c1 _ Sq1 Sq1) (by simp) ?_
          rintro w he1 xse1 ⟨rfl, rfl⟩
          rw [if_pos rfl]
          refine o_k (pcT := 440) (pcF := 409) at_406 (by decide) (by decide) rfl (fun u1 => ?_) (fun u1 => ?_)
          · exact absurd u1 (by decide)
          refine o_a (pc' := 411) rfl at_409 rfl ?_
          refine o_4 (v := (3 : Int32)) (pc' := 412) rfl at_411 rfl ?_
          refine o_1g (pcT := 436) (pcF := 415) at_412 (by decide) (by decide) rfl (fun yy3 => ?_) (fun yy3 => ?_)
          rotate_left 1
          · exact absurd (by decide) yy3
          refine o_4 (v := (1 : Int32)) (pc' := 437) rfl at_436 rfl ?_
          refine o_o (pc' := 441) at_437 (by decide) (by decide) ?_
          refine o_3w (pc' := 443) rfl at_441 (by first | exact One.u | exact One.val rfl | assumption | exact One.val (by assumption)) ?_
          exact o_s (k443 _ (by simp [hxs6]) (by simp [hys6])) (fun z hz => hz) (by exact Nat.le_of_ble_eq_true rfl) (by exact Nat.le_of_ble_eq_true rfl)
        · rcases n3 with n3 | n3
          · have e1 := List.length_eq_zero_iff.mp n3
            obtain rfl : n = 0 := by rw [hn, e1]; rfl
            rw [e1] at R8 T
            refine o_2y (M' := M_lns2) at_345 (pc' := 350) rfl (tw_203 hw) (tw_159 hw) (tw_160 hw) rfl (tw_204 hw) (tw_205 hw) (tw_206 hw) (tw_207 hw) (tw_208 hw) (tw_209 hw) (tw_210 hw) (by decide) rfl (o_6 pd_13 rfl) rfl rfl rfl rfl T.1 (c_lns2 K a0 hw t [] h8p T) (by simp) ?_
            rintro w hs xss ⟨rfl, rfl⟩
            refine o_a (pc' := 352) rfl at_350 rfl ?_
            refine o_07 (pcT := 440) (pcF := 355) at_352 (by decide) (by decide) rfl (fun yy0 => ?_) (fun yy0 => ?_)
            · first | exact absurd rfl yy0 | exact absurd (by decide) yy0
            refine o_a (pc' := 357) rfl at_355 rfl ?_
            refine o_4 (v := (1 : Int32)) (pc' := 358) rfl at_357 rfl ?_
            refine o_1g (pcT := 382) (pcF := 361) at_358 (by decide) (by decide) rfl (fun yy1 => ?_) (fun yy1 => ?_)
            rotate_left 1
            · exact absurd (by decide) yy1
            refine o_a (pc' := 384) rfl at_382 rfl ?_
            refine o_4 (v := (2 : Int32)) (pc' := 385) rfl at_384 rfl ?_
            refine o_1g (pcT := 409) (pcF := 388) at_385 (by decide) (by decide) rfl (fun yy2 => ?_) (fun yy2 => ?_)
            rotate_left 1
            · exact absurd (by decide) yy2
            refine o_a (pc' := 411) rfl at_409 rfl ?_
            refine o_4 (v := (3 : Int32)) (pc' := 412) rfl at_411 rfl ?_
            refine o_1g (pcT := 436) (pcF := 415) at_412 (by decide) (by decide) rfl (fun yy3 => ?_) (fun yy3 => ?_)
            rotate_left 1
            · exact absurd (by decide) yy3
            refine o_4 (v := (1 : Int32)) (pc' := 437) rfl at_436 rfl ?_
            refine o_o (pc' := 441) at_437 (by decide) (by decide) ?_
            refine o_3w (pc' := 443) rfl at_441 (by first | exact One.u | exact One.val rfl | assumption | exact One.val (by assumption)) ?_
            exact o_s (k443 _ (by simp [hxs6]) (by simp [hys6])) (fun z hz => hz) (by exact Nat.le_of_ble_eq_true rfl) (by exact Nat.le_of_ble_eq_true rfl)
          · obtain ⟨u1, u2, u3, e1⟩ : ∃ u1 u2 u3, o_w b1 o1 ++ o_w b2 o2 ++ o_w b3 o3 = [u1, u2, u3] := by
              match o_w b1 o1 ++ o_w b2 o2 ++ o_w b3 o3, n3 with
              | [u1, u2, u3], _ => exact ⟨u1, u2, u3, rfl⟩
            obtain ⟨z0, c0, ez0, Sq0⟩ := hOS u1 (by rw [e1]; simp)
            subst ez0
            replace Sq0 := Sq0.ext E48
            obtain ⟨z1, c1, ez1, Sq1⟩ := hOS u2 (by rw [e1]; simp)
            subst ez1
            replace Sq1 := Sq1.ext E48
            obtain ⟨z2, c2, ez2, Sq2⟩ := hOS u3 (by rw [e1]; simp)
            subst ez2
            replace Sq2 := Sq2.ext E48
            obtain rfl : n = 3 := by rw [hn, e1]; rfl
            rw [e1] at R8 T
            refine o_2y (M' := M_lns2) at_345 (pc' := 350) rfl (tw_203 hw) (tw_159 hw) (tw_160 hw) rfl (tw_204 hw) (tw_205 hw) (tw_206 hw) (tw_207 hw) (tw_208 hw) (tw_209 hw) (tw_210 hw) (by decide) rfl (o_6 pd_13 rfl) rfl rfl rfl rfl T.1 (c_lns2 K a0 hw t _ h8p T) (by simp) ?_
            rintro w hs xss ⟨rfl, rfl⟩
            refine o_a (pc' := 352) rfl at_350 rfl ?_
            refine o_07 (pcT := 440) (pcF := 355) at_352 (by decide) (by decide) rfl (fun yy0 => ?_) (fun yy0 => ?_)
            · first | exact absurd rfl yy0 | exact absurd (by decide) yy0
            refine o_a (pc' := 357) rfl at_355 rfl ?_
            refine o_4 (v := (1 : Int32)) (pc' := 358) rfl at_357 rfl ?_
            refine o_1g (pcT := 382) (pcF := 361) at_358 (by decide) (by decide) rfl (fun yy1 => ?_) (fun yy1 => ?_)
            · exact absurd yy1 (by decide)
            refine o_d (pc' := 363) rfl at_361 rfl (by first | rfl | assumption) ?_
            refine o_4 (v := (0 : Int32)) (pc' := 364) rfl at_363 rfl ?_
            refine o_0u (M' := M_lng) at_364 (pc' := 369) rfl (tw_534 hw) (tw_290 hw) (tw_291 hw) rfl (tw_535 hw) (tw_536 hw) (tw_537 hw) (tw_538 hw) (tw_208 hw) (tw_209 hw) (tw_539 hw) (by decide) rfl (o_6 pd_17 rfl) rfl rfl rfl rfl T.1 (c_lng K a0 hw t _ 0 0 (.ref z0) _ T rfl rfl rfl) (by simp) ?_
            rintro w hg0 xsg0 ⟨rfl, rfl⟩
            refine o_24 (pc' := 372) rfl at_369 (tw_26 hw) (Ins.self Sq0.1) ?_
            refine o_d (pc' := 374) rfl at_372 rfl (by first | rfl | assumption) ?_
            refine o_4 (v := (0 : Int32)) (pc' := 375) rfl at_374 rfl ?_
            refine o_15 (pc' := 376) rfl at_375 rfl R8.ary (i := 0) (by decide) rfl ?_
            refine o_0l (M' := M_seq) at_376 (pc' := 379) rfl (tw_540 hw) (tw_541 hw) (tw_542 hw) (tw_117 hw) (tw_2 hw) (tw_118 hw) (by decide) rfl (o_6 pd_27 rfl) rfl rfl rfl rfl Sq0.1 (c_seq K a0 hw g SC hg z0 z0 c0 c0 _ Sq0 Sq0) (by simp) ?_
            rintro w he0 xse0 ⟨rfl, rfl⟩
            rw [if_pos rfl]
            refine o_k (pcT := 440) (pcF := 382) at_379 (by decide) (by decide) rfl (fun u0 => ?_) (fun u0 => ?_)
            · exact absurd u0 (by decide)
            refine o_a (pc' := 384) rfl at_382 rfl ?_
            refine o_4 (v := (2 : Int32)) (pc' := 385) rfl at_384 rfl ?_
            refine o_1g (pcT := 409) (pcF := 388) at_385 (by decide) (by decide) rfl (fun yy2 => ?_) (fun yy2 => ?_)
            · exact absurd yy2 (by decide)
            refine o_d (pc' := 390) rfl at_388 rfl (by first | rfl | assumption) ?_
            refine o_4 (v := (1 : Int32)) (pc' := 391) rfl at_390 rfl ?_
            refine o_0u (M' := M_lng) at_391 (pc' := 396) rfl (tw_534 hw) (tw_290 hw) (tw_291 hw) rfl (tw_535 hw) (tw_536 hw) (tw_537 hw) (tw_538 hw) (tw_208 hw) (tw_209 hw) (tw_539 hw) (by decide) rfl (o_6 pd_17 rfl) rfl rfl rfl rfl T.1 (c_lng K a0 hw t _ 1 1 (.ref z1) _ T rfl rfl rfl) (by simp) ?_
            rintro w hg1 xsg1 ⟨rfl, rfl⟩
            refine o_24 (pc' := 399) rfl at_396 (tw_26 hw) (Ins.self Sq1.1) ?_
            refine o_d (pc' := 401) rfl at_399 rfl (by first | rfl | assumption) ?_
            refine o_4 (v := (1 : Int32)) (pc' := 402) rfl at_401 rfl ?_
            refine o_15 (pc' := 403) rfl at_402 rfl R8.ary (i := 1) (by decide) rfl ?_
            refine o_0l (M' := M_seq) at_403 (pc' := 406) rfl (tw_540 hw) (tw_541 hw) (tw_542 hw) (tw_117 hw) (tw_2 hw) (tw_118 hw) (by decide) rfl (o_6 pd_27 rfl) rfl rfl rfl rfl Sq1.1 (c_seq K a0 hw g SC hg z1 z1 c1 c1 _ Sq1 Sq1) (by simp) ?_
            rintro w he1 xse1 ⟨rfl, rfl⟩
            rw [if_pos rfl]
            refine o_k (pcT := 440) (pcF := 409) at_406 (by decide) (by decide) rfl (fun u1 => ?_) (fun u1 => ?_)
            · exact absurd u1 (by decide)
            refine o_a (pc' := 411) rfl at_409 rfl ?_
            refine o_4 (v := (3 : Int32)) (pc' := 412) rfl at_411 rfl ?_
            refine o_1g (pcT := 436) (pcF := 415) at_412 (by decide) (by decide) rfl (fun yy3 => ?_) (fun yy3 => ?_)
            · exact absurd yy3 (by decide)
            refine o_d (pc' := 417) rfl at_415 rfl (by first | rfl | assumption) ?_
            refine o_4 (v := (2 : Int32)) (pc' := 418) rfl at_417 rfl ?_
            refine o_0u (M' := M_lng) at_418 (pc' := 423) rfl (tw_534 hw) (tw_290 hw) (tw_291 hw) rfl (tw_535 hw) (tw_536 hw) (tw_537 hw) (tw_538 hw) (tw_208 hw) (tw_209 hw) (tw_539 hw) (by decide) rfl (o_6 pd_17 rfl) rfl rfl rfl rfl T.1 (c_lng K a0 hw t _ 2 2 (.ref z2) _ T rfl rfl rfl) (by simp) ?_
            rintro w hg2 xsg2 ⟨rfl, rfl⟩
            refine o_24 (pc' := 426) rfl at_423 (tw_26 hw) (Ins.self Sq2.1) ?_
            refine o_d (pc' := 428) rfl at_426 rfl (by first | rfl | assumption) ?_
            refine o_4 (v := (2 : Int32)) (pc' := 429) rfl at_428 rfl ?_
            refine o_15 (pc' := 430) rfl at_429 rfl R8.ary (i := 2) (by decide) rfl ?_
            refine o_0l (M' := M_seq) at_430 (pc' := 433) rfl (tw_540 hw) (tw_541 hw) (tw_542 hw) (tw_117 hw) (tw_2 hw) (tw_118 hw) (by decide) rfl (o_6 pd_27 rfl) rfl rfl rfl rfl Sq2.1 (c_seq K a0 hw g SC hg z2 z2 c2 c2 _ Sq2 Sq2) (by simp) ?_
            rintro w he2 xse2 ⟨rfl, rfl⟩
            rw [if_pos rfl]
            refine o_k (pcT := 440) (pcF := 436) at_433 (by decide) (by decide) rfl (fun u2 => ?_) (fun u2 => ?_)
            · exact absurd u2 (by decide)
            refine o_4 (v := (1 : Int32)) (pc' := 437) rfl at_436 rfl ?_
            refine o_o (pc' := 441) at_437 (by decide) (by decide) ?_
            refine o_3w (pc' := 443) rfl at_441 (by first | exact One.u | exact One.val rfl | assumption | exact One.val (by assumption)) ?_
            exact o_s (k443 _ (by simp [hxs6]) (by simp [hys6])) (fun z hz => hz) (by exact Nat.le_of_ble_eq_true rfl) (by exact Nat.le_of_ble_eq_true rfl)
      have k317 : ∀ (n : Int32) (h6 : Heap) (sf6 : List Addr), n = (o_w b1 o1 ++ o_w b2 o2).length.toInt32 → Ext h4p h6 → o_02 K.Z h6 ex o_l ((o_w b1 o1 ++ o_w b2 o2) ++ List.replicate (3 - (o_w b1 o1 ++ o_w b2 o2).length) .null) → ex ∈ sf6 → x ∈ sf6 → y ∈ sf6 → o_3 K M_law (o_c fun w _ _ => w = .int 1) 317 [.val (.int p0), .val (.int p1), .val (.int p2), .val (.int p3), .val (.int p4), .val (.int p5), .val (.int (if sw then 1 else 0)), .val (.ref x), .val (.ref y), .val (.ref o1), .val (.ref o2), .val (.ref o3), .val (.int (if b1 then 1 else 0)), .val (.int (if b2 then 1 else 0)), .val (.int (if b3 then 1 else 0)), .val (.int (o_j p1)), .val (.int (o_j p3)), .val (.ref vA), .val (.ref vB), .val (.ref l), .val (.ref a), .val (.ref ex), .val (.int n), .unset, .unset, .unset] [] sf6 h6 103 578 := by
        intro n h6 sf6 hn E6p R6 hex hxs6 hys6
        have hlx : (o_w b1 o1 ++ o_w b2 o2).length ≤ 2 := by
          have := o_25 b1 o1
          have := o_25 b2 o2
          first | omega | (simp only [List.length_append, List.length_nil] <;> omega) | simp
        refine o_a (pc' := 319) rfl at_317 rfl ?_
        cases b3
        · skip
          refine o_k (pcT := 332) (pcF := 322) at_319 (by decide) (by decide) rfl (fun y0 => ?_) (fun y0 => ?_)
          rotate_left 1
          · exact absurd (by decide) y0
          exact o_s (k332 n h6 sf6 (by rw [hn]; simp [o_w]) E6p (by simpa [o_w] using R6) hex hxs6 hys6) (fun z hz => hz) (by exact Nat.le_of_ble_eq_true rfl) (by exact Nat.le_of_ble_eq_true rfl)
        · skip
          refine o_k (pcT := 332) (pcF := 322) at_319 (by decide) (by decide) rfl (fun y0 => ?_) (fun y0 => ?_)
          · exact absurd y0 (by decide)
          refine o_d (pc' := 324) rfl at_322 rfl (by first | rfl | assumption) ?_
          refine o_a (pc' := 326) rfl at_324 rfl ?_
          refine o_d (pc' := 328) rfl at_326 rfl (by first | rfl | assumption) ?_
          refine o_2c (pc' := 329) rfl at_328 R6 (i := ((o_w b1 o1 ++ o_w b2 o2).length)) (by rw [hn]; exact o_0o _ (by omega)) (by have h9 := hlx; simp only [List.length_append, List.length_replicate, List.length_nil] at h9 ⊢; omega) (Ins.self (hO3p.ext E6p).1) hex ?_
          intro h7 k7 R7
          rw [o_5w (by omega)] at R7
          have E7p : Ext h4p h7 := o_f E6p k7 (by intro z hz; cases List.mem_singleton.mp hz; omega)
          refine o_58 (z := (1 : Int32)) (pc' := 332) rfl at_329 rfl ?_
          exact o_s (k332 (n + 1) h7 sf6 (by rw [hn, o_5m (by omega)]; exact congrArg Nat.toInt32 (List.length_append (bs := [Value.ref o3])).symm) E7p (by simpa [o_w] using R7) hex hxs6 hys6) (fun z hz => hz) (by exact Nat.le_of_ble_eq_true rfl) (by exact Nat.le_of_ble_eq_true rfl)
      have k302 : ∀ (n : Int32) (h6 : Heap) (sf6 : List Addr), n = (o_w b1 o1).length.toInt32 → Ext h4p h6 → o_02 K.Z h6 ex o_l ((o_w b1 o1) ++ List.replicate (3 - (o_w b1 o1).length) .null) → ex ∈ sf6 → x ∈ sf6 → y ∈ sf6 → o_3 K M_law (o_c fun w _ _ => w = .int 1) 302 [.val (.int p0), .val (.int p1), .val (.int p2), .val (.int p3), .val (.int p4), .val (.int p5), .val (.int (if sw then 1 else 0)), .val (.ref x), .val (.ref y), .val (.ref o1), .val (.ref o2), .val (.ref o3), .val (.int (if b1 then 1 else 0)), .val (.int (if b2 then 1 else 0)), .val (.int (if b3 then 1 else 0)), .val (.int (o_j p1)), .val (.int (o_j p3)), .val (.ref vA), .val (.ref vB), .val (.ref l), .val (.ref a), .val (.ref ex), .val (.int n), .unset, .unset, .unset] [] sf6 h6 103 578 := by
        intro n h6 sf6 hn E6p R6 hex hxs6 hys6
        have hlx : (o_w b1 o1).length ≤ 1 := by
          have := o_25 b1 o1
          first | omega | (simp only [List.length_append, List.length_nil] <;> omega) | simp
        refine o_a (pc' := 304) rfl at_302 rfl ?_
        cases b2
        · skip
          refine o_k (pcT := 317) (pcF := 307) at_304 (by decide) (by decide) rfl (fun y0 => ?_) (fun y0 => ?_)
          rotate_left 1
          · exact absurd (by decide) y0
          exact o_s (k317 n h6 sf6 (by rw [hn]; simp [o_w]) E6p (by simpa [o_w] using R6) hex hxs6 hys6) (fun z hz => hz) (by exact Nat.le_of_ble_eq_true rfl) (by exact Nat.le_of_ble_eq_true rfl)
        · skip
          refine o_k (pcT := 317) (pcF := 307) at_304 (by decide) (by decide) rfl (fun y0 => ?_) (fun y0 => ?_)
          · exact absurd y0 (by decide)
          refine o_d (pc' := 309) rfl at_307 rfl (by first | rfl | assumption) ?_
          refine o_a (pc' := 311) rfl at_309 rfl ?_
          refine o_d (pc' := 313) rfl at_311 rfl (by first | rfl | assumption) ?_
          refine o_2c (pc' := 314) rfl at_313 R6 (i := ((o_w b1 o1).length)) (by rw [hn]; exact o_0o _ (by omega)) (by have h9 := hlx; simp only [List.length_append, List.length_replicate, List.length_nil] at h9 ⊢; omega) (Ins.self (hO2p.ext E6p).1) hex ?_
          intro h7 k7 R7
          rw [o_5w (by omega)] at R7
          have E7p : Ext h4p h7 := o_f E6p k7 (by intro z hz; cases List.mem_singleton.mp hz; omega)
          refine o_58 (z := (1 : Int32)) (pc' := 317) rfl at_314 rfl ?_
          exact o_s (k317 (n + 1) h7 sf6 (by rw [hn, o_5m (by omega)]; exact congrArg Nat.toInt32 (List.length_append (bs := [Value.ref o2])).symm) E7p (by simpa [o_w] using R7) hex hxs6 hys6) (fun z hz => hz) (by exact Nat.le_of_ble_eq_true rfl) (by exact Nat.le_of_ble_eq_true rfl)
      have k287 : ∀ (n : Int32) (h6 : Heap) (sf6 : List Addr), n = (([] : List Value)).length.toInt32 → Ext h4p h6 → o_02 K.Z h6 ex o_l ((([] : List Value)) ++ List.replicate (3 - (([] : List Value)).length) .null) → ex ∈ sf6 → x ∈ sf6 → y ∈ sf6 → o_3 K M_law (o_c fun w _ _ => w = .int 1) 287 [.val (.int p0), .val (.int p1), .val (.int p2), .val (.int p3), .val (.int p4), .val (.int p5), .val (.int (if sw then 1 else 0)), .val (.ref x), .val (.ref y), .val (.ref o1), .val (.ref o2), .val (.ref o3), .val (.int (if b1 then 1 else 0)), .val (.int (if b2 then 1 else 0)), .val (.int (if b3 then 1 else 0)), .val (.int (o_j p1)), .val (.int (o_j p3)), .val (.ref vA), .val (.ref vB), .val (.ref l), .val (.ref a), .val (.ref ex), .val (.int n), .unset, .unset, .unset] [] sf6 h6 103 578 := by
        intro n h6 sf6 hn E6p R6 hex hxs6 hys6
        have hlx : (([] : List Value)).length ≤ 0 := by
          first | omega | (simp only [List.length_append, List.length_nil] <;> omega) | simp
        refine o_a (pc' := 289) rfl at_287 rfl ?_
        cases b1
        · skip
          refine o_k (pcT := 302) (pcF := 292) at_289 (by decide) (by decide) rfl (fun y0 => ?_) (fun y0 => ?_)
          rotate_left 1
          · exact absurd (by decide) y0
          exact o_s (k302 n h6 sf6 (by rw [hn]; simp [o_w]) E6p (by simpa [o_w] using R6) hex hxs6 hys6) (fun z hz => hz) (by exact Nat.le_of_ble_eq_true rfl) (by exact Nat.le_of_ble_eq_true rfl)
        · skip
          refine o_k (pcT := 302) (pcF := 292) at_289 (by decide) (by decide) rfl (fun y0 => ?_) (fun y0 => ?_)
          · exact absurd y0 (by decide)
          refine o_d (pc' := 294) rfl at_292 rfl (by first | rfl | assumption) ?_
          refine o_a (pc' := 296) rfl at_294 rfl ?_
          refine o_d (pc' := 298) rfl at_296 rfl (by first | rfl | assumption) ?_
          refine o_2c (pc' := 299) rfl at_298 R6 (i := ((([] : List Value)).length)) (by rw [hn]; exact o_0o _ (by omega)) (by have h9 := hlx; simp only [List.length_append, List.length_replicate, List.length_nil] at h9 ⊢; omega) (Ins.self (hO1p.ext E6p).1) hex ?_
          intro h7 k7 R7
          rw [o_5w (by omega)] at R7
          have E7p : Ext h4p h7 := o_f E6p k7 (by intro z hz; cases List.mem_singleton.mp hz; omega)
          refine o_58 (z := (1 : Int32)) (pc' := 302) rfl at_299 rfl ?_
          exact o_s (k302 (n + 1) h7 sf6 (by rw [hn, o_5m (by decide)]; rfl) E7p (by simpa [o_w] using R7) hex hxs6 hys6) (fun z hz => hz) (by exact Nat.le_of_ble_eq_true rfl) (by exact Nat.le_of_ble_eq_true rfl)
      exact o_s (k287 0 h5p _ rfl E5p R5 (by simp) hxs4 hys4) (fun z hz => hz) (by exact Nat.le_of_ble_eq_true rfl) (by exact Nat.le_of_ble_eq_true rfl)
    have k249 : ∀ (fA fB e : Addr) (h2 : Heap) (sf : List Addr), o_27 K.Z h12 h2 sf D l e (o_w b1 o1 ++ o_18 (o_j p1) fA vA ++ o_w b2 o2 ++ o_18 (o_j p3) fB vB) → x ∈ sf → y ∈ sf → o_55 K.Z h2 (o_j p1) sw p1 fA → o_55 K.Z h2 (o_j p3) (!sw) p3 fB → o_3 K M_law (o_c fun w _ _ => w = .int 1) 249 [.val (.int p0), .val (.int p1), .val (.int p2), .val (.int p3), .val (.int p4), .val (.int p5), .val (.int (if sw then 1 else 0)), .val (.ref x), .val (.ref y), .val (.ref o1), .val (.ref o2), .val (.ref o3), .val (.int (if b1 then 1 else 0)), .val (.int (if b2 then 1 else 0)), .val (.int (if b3 then 1 else 0)), .val (.int (o_j p1)), .val (.int (o_j p3)), .val (.ref vA), .val (.ref vB), .val (.ref l), .unset, .unset, .unset, .unset, .unset, .unset] [] sf h2 57 270 := by
      intro fA fB e h2 sf P hxs hys KfA KfB
      have hlx : (o_w b1 o1 ++ o_18 (o_j p1) fA vA ++ o_w b2 o2 ++ o_18 (o_j p3) fB vB).length ≤ 6 := by
        have := o_25 b1 o1
        have := o_4v (o_j p1) fA vA
        have := o_25 b2 o2
        have := o_4v (o_j p3) fB vB
        first | omega | (simp only [List.length_append, List.length_nil] <;> omega) | simp
      refine o_a (pc' := 251) rfl at_249 rfl ?_
      cases b3
      · skip
        refine o_k (pcT := 264) (pcF := 254) at_251 (by decide) (by decide) rfl (fun y0 => ?_) (fun y0 => ?_)
        rotate_left 1
        · exact absurd (by decide) y0
        exact o_s (k264 fA fB e h2 sf (by simpa [o_w] using P) hxs hys KfA KfB) (fun z hz => hz) (by exact Nat.le_of_ble_eq_true rfl) (by exact Nat.le_of_ble_eq_true rfl)
      · skip
        refine o_k (pcT := 264) (pcF := 254) at_251 (by decide) (by decide) rfl (fun y0 => ?_) (fun y0 => ?_)
        · exact absurd y0 (by decide)
        refine o_d (pc' := 256) rfl at_254 rfl (by first | rfl | assumption) ?_
        refine o_d (pc' := 258) rfl at_256 rfl (by first | rfl | assumption) ?_
        refine o_0u (M' := M_add) at_258 (pc' := 263) rfl (tw_254 hw) (tw_255 hw) (tw_256 hw) rfl (tw_257 hw) (tw_258 hw) (tw_259 hw) (tw_260 hw) (tw_165 hw) (tw_62 hw) (tw_261 hw) (by decide) rfl (o_6 pd_27 rfl) rfl rfl rfl rfl P.2.1.1 (c_add K a0 hw D SD l e o3 _ h2 (AD12.ext P.1) P.2.1 (Ins.of_exa (hO3.ext P.1).1 (tw_285 hw)) (by first | omega | (have h9 := hlx; simp only [List.length_append, List.length_cons, List.length_nil] at h9 ⊢; omega)) (P.ne hw) nDl) (o_1u P.2.2.2.2.1 P.2.2.2.2.2) ?_
        rintro w h3 xs3 ⟨rfl, k3, e3, he3, L3⟩
        have P3 := P.add (sf' := xs3 ++ sf) k3 L3 (he3.imp id (fun z => ⟨List.mem_append_left _ z.1, z.2⟩)) (fun z hz => List.mem_append_right _ hz)
        have K3fA := fun z => P.str hw k3 (KfA z)
        have K3fB := fun z => P.str hw k3 (KfB z)
        refine o_28 (pc' := 264) rfl at_263 (by first | rfl | assumption) ?_
        exact o_s (k264 fA fB e3 h3 (xs3 ++ sf) (by simpa [o_w] using P3) (by simp [hxs]) (by simp [hys]) K3fA K3fB) (fun z hz => hz) (by exact Nat.le_of_ble_eq_true rfl) (by exact Nat.le_of_ble_eq_true rfl)
    have k195 : ∀ (fA e : Addr) (h2 : Heap) (sf : List Addr), o_27 K.Z h12 h2 sf D l e (o_w b1 o1 ++ o_18 (o_j p1) fA vA ++ o_w b2 o2) → x ∈ sf → y ∈ sf → o_55 K.Z h2 (o_j p1) sw p1 fA → o_3 K M_law (o_c fun w _ _ => w = .int 1) 195 [.val (.int p0), .val (.int p1), .val (.int p2), .val (.int p3), .val (.int p4), .val (.int p5), .val (.int (if sw then 1 else 0)), .val (.ref x), .val (.ref y), .val (.ref o1), .val (.ref o2), .val (.ref o3), .val (.int (if b1 then 1 else 0)), .val (.int (if b2 then 1 else 0)), .val (.int (if b3 then 1 else 0)), .val (.int (o_j p1)), .val (.int (o_j p3)), .val (.ref vA), .val (.ref vB), .val (.ref l), .unset, .unset, .unset, .unset, .unset, .unset] [] sf h2 49 221 := by
      intro fA e h2 sf P hxs hys KfA
      have hlx : (o_w b1 o1 ++ o_18 (o_j p1) fA vA ++ o_w b2 o2).length ≤ 4 := by
        have := o_25 b1 o1
        have := o_4v (o_j p1) fA vA
        have := o_25 b2 o2
        first | omega | (simp only [List.length_append] <;> omega)
      have e2 : o_j p3 = 0 ∨ o_j p3 = 1 ∨ o_j p3 = 2 := o_51 (XT.ushr p3 18)
      refine o_a (pc' := 197) rfl at_195 rfl ?_
      rcases e2 with e2 | e2 | e2
      · have eJ : ∀ f : Addr, o_18 (o_j p3) f vB = [] := fun f => by unfold o_18; rw [if_pos e2]
        refine o_k (pcT := 249) (pcF := 200) at_197 (by decide) (by decide) rfl (fun y0 => ?_) (fun y0 => ?_)
        rotate_left 1
        · exact absurd e2 y0
        exact o_s (k249 fA l e h2 sf (by rw [eJ, List.append_nil]; exact P) hxs hys KfA (fun z => absurd e2 z)) (fun z hz => hz) (by exact Nat.le_of_ble_eq_true rfl) (by exact Nat.le_of_ble_eq_true rfl)
      · have eJ : ∀ f : Addr, o_18 (o_j p3) f vB = [.ref f] := fun f => by unfold o_18; rw [e2]; rfl
        have nz : ¬ o_j p3 = 0 := by rw [e2]; decide
        refine o_k (pcT := 249) (pcF := 200) at_197 (by decide) (by decide) rfl (fun y0 => ?_) (fun y0 => ?_)
        · exact absurd y0 nz
        have ed : decide (o_j p3 = 1) = true := by rw [e2]; rfl
        refine o_d (pc' := 202) rfl at_200 rfl (by first | rfl | assumption) ?_
        refine o_a (pc' := 204) rfl at_202 rfl ?_
        cases sw
        · skip
          refine o_0k (pcT := 211) (pcF := 207) at_204 (by decide) (by decide) rfl (fun y9 => ?_) (fun y9 => ?_)
          · first | exact absurd y9 (by decide) | exact absurd (by decide) y9
          refine o_4 (v := (1 : Int32)) (pc' := 208) rfl at_207 rfl ?_
          refine o_o (pc' := 212) at_208 (by decide) (by decide) ?_
          refine o_a (pc' := 214) rfl at_212 rfl ?_
          refine o_4 (v := (1 : Int32)) (pc' := 215) rfl at_214 rfl ?_
          refine o_07 (pcT := 222) (pcF := 218) at_215 (by decide) (by decide) rfl (fun y1 => ?_) (fun y1 => ?_)
          · exact absurd e2 y1
          refine o_4 (v := (1 : Int32)) (pc' := 219) rfl at_218 rfl ?_
          refine o_o (pc' := 223) at_219 (by decide) (by decide) ?_
          refine o_2 (pc' := 224) rfl at_223 rfl ?_
          refine o_13 (M' := M_flg) at_224 (pc' := 227) rfl (tw_286 hw) (tw_287 hw) (tw_46 hw) (tw_288 hw) (by decide) rfl (o_6 pd_64 rfl) rfl rfl rfl rfl (c_flg K a0 hw hnw hEL hme g SC hg true true p3 h2) (by simp) ?_
          rintro w hf xsf ⟨fB, rfl, Ef, Sf⟩
          have Pf := P.grow (sf' := xsf ++ sf) Ef (fun z hz => List.mem_append_right _ hz)
          have KffA := fun z => (KfA z).ext Ef
          refine o_0u (M' := M_add) at_227 (pc' := 232) rfl (tw_254 hw) (tw_255 hw) (tw_256 hw) rfl (tw_257 hw) (tw_258 hw) (tw_259 hw) (tw_260 hw) (tw_165 hw) (tw_62 hw) (tw_261 hw) (by decide) rfl (o_6 pd_27 rfl) rfl rfl rfl rfl Pf.2.1.1 (c_add K a0 hw D SD l e fB _ hf (AD12.ext Pf.1) Pf.2.1 (Ins.of_exa (Sf).1 (tw_285 hw)) (by first | omega | (have h9 := hlx; simp only [List.length_append, List.length_cons, List.length_nil] at h9 ⊢; omega)) (Pf.ne hw) nDl) (o_1u Pf.2.2.2.2.1 Pf.2.2.2.2.2) ?_
          rintro w h3 xs3 ⟨rfl, k3, e3, he3, L3⟩
          have P3 := Pf.add (sf' := xs3 ++ (xsf ++ sf)) k3 L3 (he3.imp id (fun z => ⟨List.mem_append_left _ z.1, z.2⟩)) (fun z hz => List.mem_append_right _ hz)
          have S3 := Pf.str hw k3 Sf
          have K3fA := fun z => Pf.str hw k3 (KffA z)
          refine o_28 (pc' := 233) rfl at_232 (by first | rfl | assumption) ?_
          refine o_a (pc' := 235) rfl at_233 rfl ?_
          refine o_4 (v := (2 : Int32)) (pc' := 236) rfl at_235 rfl ?_
          refine o_07 (pcT := 249) (pcF := 239) at_236 (by decide) (by decide) rfl (fun y2 => ?_) (fun y2 => ?_)
          rotate_left 1
          · rw [e2] at y2; exact absurd y2 (by decide)
          exact o_s (k249 fA fB e3 h3 (xs3 ++ (xsf ++ sf)) (by rw [eJ]; exact P3) (by simp [hxs]) (by simp [hys]) K3fA (fun _ => by rw [ed]; exact S3)) (fun z hz => hz) (by exact Nat.le_of_ble_eq_true rfl) (by exact Nat.le_of_ble_eq_true rfl)
        · skip
          refine o_0k (pcT := 211) (pcF := 207) at_204 (by decide) (by decide) rfl (fun y9 => ?_) (fun y9 => ?_)
          rotate_left 1
          · first | exact absurd y9 (by decide) | exact absurd (by decide) y9
          refine o_4 (v := (0 : Int32)) (pc' := 212) rfl at_211 rfl ?_
          refine o_a (pc' := 214) rfl at_212 rfl ?_
          refine o_4 (v := (1 : Int32)) (pc' := 215) rfl at_214 rfl ?_
          refine o_07 (pcT := 222) (pcF := 218) at_215 (by decide) (by decide) rfl (fun y1 => ?_) (fun y1 => ?_)
          · exact absurd e2 y1
          refine o_4 (v := (1 : Int32)) (pc' := 219) rfl at_218 rfl ?_
          refine o_o (pc' := 223) at_219 (by decide) (by decide) ?_
          refine o_2 (pc' := 224) rfl at_223 rfl ?_
          refine o_13 (M' := M_flg) at_224 (pc' := 227) rfl (tw_286 hw) (tw_287 hw) (tw_46 hw) (tw_288 hw) (by decide) rfl (o_6 pd_64 rfl) rfl rfl rfl rfl (c_flg K a0 hw hnw hEL hme g SC hg false true p3 h2) (by simp) ?_
          rintro w hf xsf ⟨fB, rfl, Ef, Sf⟩
          have Pf := P.grow (sf' := xsf ++ sf) Ef (fun z hz => List.mem_append_right _ hz)
          have KffA := fun z => (KfA z).ext Ef
          refine o_0u (M' := M_add) at_227 (pc' := 232) rfl (tw_254 hw) (tw_255 hw) (tw_256 hw) rfl (tw_257 hw) (tw_258 hw) (tw_259 hw) (tw_260 hw) (tw_165 hw) (tw_62 hw) (tw_261 hw) (by decide) rfl (o_6 pd_27 rfl) rfl rfl rfl rfl Pf.2.1.1 (c_add K a0 hw D SD l e fB _ hf (AD12.ext Pf.1) Pf.2.1 (Ins.of_exa (Sf).1 (tw_285 hw)) (by first | omega | (have h9 := hlx; simp only [List.length_append, List.length_cons, List.length_nil] at h9 ⊢; omega)) (Pf.ne hw) nDl) (o_1u Pf.2.2.2.2.1 Pf.2.2.2.2.2) ?_
          rintro w h3 xs3 ⟨rfl, k3, e3, he3, L3⟩
          have P3 := Pf.add (sf' := xs3 ++ (xsf ++ sf)) k3 L3 (he3.imp id (fun z => ⟨List.mem_append_left _ z.1, z.2⟩)) (fun z hz => List.mem_append_right _ hz)
          have S3 := Pf.str hw k3 Sf
          have K3fA := fun z => Pf.str hw k3 (KffA z)
          refine o_28 (pc' := 233) rfl at_232 (by first | rfl | assumption) ?_
          refine o_a (pc' := 235) rfl at_233 rfl ?_
          refine o_4 (v := (2 : Int32)) (pc' := 236) rfl at_235 rfl ?_
          refine o_07 (pcT := 249) (pcF := 239) at_236 (by decide) (by decide) rfl (fun y2 => ?_) (fun y2 => ?_)
          rotate_left 1
          · rw [e2] at y2; exact absurd y2 (by decide)
          exact o_s (k249 fA fB e3 h3 (xs3 ++ (xsf ++ sf)) (by rw [eJ]; exact P3) (by simp [hxs]) (by simp [hys]) K3fA (fun _ => by rw [ed]; exact S3)) (fun z hz => hz) (by exact Nat.le_of_ble_eq_true rfl) (by exact Nat.le_of_ble_eq_true rfl)
      · have eJ : ∀ f : Addr, o_18 (o_j p3) f vB = [.ref f, .ref vB] := fun f => by unfold o_18; rw [e2]; rfl
        have nz : ¬ o_j p3 = 0 := by rw [e2]; decide
        refine o_k (pcT := 249) (pcF := 200) at_197 (by decide) (by decide) rfl (fun y0 => ?_) (fun y0 => ?_)
        · exact absurd y0 nz
        have ed : decide (o_j p3 = 1) = false := by rw [e2]; rfl
        refine o_d (pc' := 202) rfl at_200 rfl (by first | rfl | assumption) ?_
        refine o_a (pc' := 204) rfl at_202 rfl ?_
        cases sw
        · skip
          refine o_0k (pcT := 211) (pcF := 207) at_204 (by decide) (by decide) rfl (fun y9 => ?_) (fun y9 => ?_)
          · first | exact absurd y9 (by decide) | exact absurd (by decide) y9
          refine o_4 (v := (1 : Int32)) (pc' := 208) rfl at_207 rfl ?_
          refine o_o (pc' := 212) at_208 (by decide) (by decide) ?_
          refine o_a (pc' := 214) rfl at_212 rfl ?_
          refine o_4 (v := (1 : Int32)) (pc' := 215) rfl at_214 rfl ?_
          refine o_07 (pcT := 222) (pcF := 218) at_215 (by decide) (by decide) rfl (fun y1 => ?_) (fun y1 => ?_)
          rotate_left 1
          · rw [e2] at y1; exact absurd y1 (by decide)
          refine o_4 (v := (0 : Int32)) (pc' := 223) rfl at_222 rfl ?_
          refine o_2 (pc' := 224) rfl at_223 rfl ?_
          refine o_13 (M' := M_flg) at_224 (pc' := 227) rfl (tw_286 hw) (tw_287 hw) (tw_46 hw) (tw_288 hw) (by decide) rfl (o_6 pd_64 rfl) rfl rfl rfl rfl (c_flg K a0 hw hnw hEL hme g SC hg true false p3 h2) (by simp) ?_
          rintro w hf xsf ⟨fB, rfl, Ef, Sf⟩
          have Pf := P.grow (sf' := xsf ++ sf) Ef (fun z hz => List.mem_append_right _ hz)
          have KffA := fun z => (KfA z).ext Ef
          refine o_0u (M' := M_add) at_227 (pc' := 232) rfl (tw_254 hw) (tw_255 hw) (tw_256 hw) rfl (tw_257 hw) (tw_258 hw) (tw_259 hw) (tw_260 hw) (tw_165 hw) (tw_62 hw) (tw_261 hw) (by decide) rfl (o_6 pd_27 rfl) rfl rfl rfl rfl Pf.2.1.1 (c_add K a0 hw D SD l e fB _ hf (AD12.ext Pf.1) Pf.2.1 (Ins.of_exa (Sf).1 (tw_285 hw)) (by first | omega | (have h9 := hlx; simp only [List.length_append, List.length_cons, List.length_nil] at h9 ⊢; omega)) (Pf.ne hw) nDl) (o_1u Pf.2.2.2.2.1 Pf.2.2.2.2.2) ?_
          rintro w h3 xs3 ⟨rfl, k3, e3, he3, L3⟩
          have P3 := Pf.add (sf' := xs3 ++ (xsf ++ sf)) k3 L3 (he3.imp id (fun z => ⟨List.mem_append_left _ z.1, z.2⟩)) (fun z hz => List.mem_append_right _ hz)
          have S3 := Pf.str hw k3 Sf
          have K3fA := fun z => Pf.str hw k3 (KffA z)
          refine o_28 (pc' := 233) rfl at_232 (by first | rfl | assumption) ?_
          refine o_a (pc' := 235) rfl at_233 rfl ?_
          refine o_4 (v := (2 : Int32)) (pc' := 236) rfl at_235 rfl ?_
          refine o_07 (pcT := 249) (pcF := 239) at_236 (by decide) (by decide) rfl (fun y2 => ?_) (fun y2 => ?_)
          · exact absurd e2 y2
          refine o_d (pc' := 241) rfl at_239 rfl (by first | rfl | assumption) ?_
          refine o_d (pc' := 243) rfl at_241 rfl (by first | rfl | assumption) ?_
          refine o_0u (M' := M_add) at_243 (pc' := 248) rfl (tw_254 hw) (tw_255 hw) (tw_256 hw) rfl (tw_257 hw) (tw_258 hw) (tw_259 hw) (tw_260 hw) (tw_165 hw) (tw_62 hw) (tw_261 hw) (by decide) rfl (o_6 pd_27 rfl) rfl rfl rfl rfl P3.2.1.1 (c_add K a0 hw D SD l e3 vB _ h3 (AD12.ext P3.1) P3.2.1 (Ins.of_exa (VB.ext P3.1).1 (tw_285 hw)) (by first | omega | (have h9 := hlx; simp only [List.length_append, List.length_cons, List.length_nil] at h9 ⊢; omega)) (P3.ne hw) nDl) (o_1u P3.2.2.2.2.1 P3.2.2.2.2.2) ?_
          rintro w h4 xs4 ⟨rfl, k4, e4, he4, L4⟩
          have P4 := P3.add (sf' := xs4 ++ (xs3 ++ (xsf ++ sf))) k4 L4 (he4.imp id (fun z => ⟨List.mem_append_left _ z.1, z.2⟩)) (fun z hz => List.mem_append_right _ hz)
          have S4 := P3.str hw k4 S3
          have K4fA := fun z => P3.str hw k4 (K3fA z)
          refine o_28 (pc' := 249) rfl at_248 (by first | rfl | assumption) ?_
          exact o_s (k249 fA fB e4 h4 (xs4 ++ (xs3 ++ (xsf ++ sf))) (by rw [eJ]; simpa using P4) (by simp [hxs]) (by simp [hys]) K4fA (fun _ => by rw [ed]; exact S4)) (fun z hz => hz) (by exact Nat.le_of_ble_eq_true rfl) (by exact Nat.le_of_ble_eq_true rfl)
        · skip
          refine o_0k (pcT := 211) (pcF := 207) at_204 (by decide) (by decide) rfl (fun y9 => ?_) (fun y9 => ?_)
          rotate_left 1
          · first | exact absurd y9 (by decide) | exact absurd (by decide) y9
          refine o_4 (v := (0 : Int32)) (pc' := 212) rfl at_211 rfl ?_
          refine o_a (pc' := 214) rfl at_212 rfl ?_
          refine o_4 (v := (1 : Int32)) (pc' := 215) rfl at_214 rfl ?_
          refine o_07 (pcT := 222) (pcF := 218) at_215 (by decide) (by decide) rfl (fun y1 => ?_) (fun y1 => ?_)
          rotate_left 1
          · rw [e2] at y1; exact absurd y1 (by decide)
          refine o_4 (v := (0 : Int32)) (pc' := 223) rfl at_222 rfl ?_
          refine o_2 (pc' := 224) rfl at_223 rfl ?_
          refine o_13 (M' := M_flg) at_224 (pc' := 227) rfl (tw_286 hw) (tw_287 hw) (tw_46 hw) (tw_288 hw) (by decide) rfl (o_6 pd_64 rfl) rfl rfl rfl rfl (c_flg K a0 hw hnw hEL hme g SC hg false false p3 h2) (by simp) ?_
          rintro w hf xsf ⟨fB, rfl, Ef, Sf⟩
          have Pf := P.grow (sf' := xsf ++ sf) Ef (fun z hz => List.mem_append_right _ hz)
          have KffA := fun z => (KfA z).ext Ef
          refine o_0u (M' := M_add) at_227 (pc' := 232) rfl (tw_254 hw) (tw_255 hw) (tw_256 hw) rfl (tw_257 hw) (tw_258 hw) (tw_259 hw) (tw_260 hw) (tw_165 hw) (tw_62 hw) (tw_261 hw) (by decide) rfl (o_6 pd_27 rfl) rfl rfl rfl rfl Pf.2.1.1 (c_add K a0 hw D SD l e fB _ hf (AD12.ext Pf.1) Pf.2.1 (Ins.of_exa (Sf).1 (tw_285 hw)) (by first | omega | (have h9 := hlx; simp only [List.length_append, List.length_cons, List.length_nil] at h9 ⊢; omega)) (Pf.ne hw) nDl) (o_1u Pf.2.2.2.2.1 Pf.2.2.2.2.2) ?_
          rintro w h3 xs3 ⟨rfl, k3, e3, he3, L3⟩
          have P3 := Pf.add (sf' := xs3 ++ (xsf ++ sf)) k3 L3 (he3.imp id (fun z => ⟨List.mem_append_left _ z.1, z.2⟩)) (fun z hz => List.mem_append_right _ hz)
          have S3 := Pf.str hw k3 Sf
          have K3fA := fun z => Pf.str hw k3 (KffA z)
          refine o_28 (pc' := 233) rfl at_232 (by first | rfl | assumption) ?_
          refine o_a (pc' := 235) rfl at_233 rfl ?_
          refine o_4 (v := (2 : Int32)) (pc' := 236) rfl at_235 rfl ?_
          refine o_07 (pcT := 249) (pcF := 239) at_236 (by decide) (by decide) rfl (fun y2 => ?_) (fun y2 => ?_)
          · exact absurd e2 y2
          refine o_d (pc' := 241) rfl at_239 rfl (by first | rfl | assumption) ?_
          refine o_d (pc' := 243) rfl at_241 rfl (by first | rfl | assumption) ?_
          refine o_0u (M' := M_add) at_243 (pc' := 248) rfl (tw_254 hw) (tw_255 hw) (tw_256 hw) rfl (tw_257 hw) (tw_258 hw) (tw_259 hw) (tw_260 hw) (tw_165 hw) (tw_62 hw) (tw_261 hw) (by decide) rfl (o_6 pd_27 rfl) rfl rfl rfl rfl P3.2.1.1 (c_add K a0 hw D SD l e3 vB _ h3 (AD12.ext P3.1) P3.2.1 (Ins.of_exa (VB.ext P3.1).1 (tw_285 hw)) (by first | omega | (have h9 := hlx; simp only [List.length_append, List.length_cons, List.length_nil] at h9 ⊢; omega)) (P3.ne hw) nDl) (o_1u P3.2.2.2.2.1 P3.2.2.2.2.2) ?_
          rintro w h4 xs4 ⟨rfl, k4, e4, he4, L4⟩
          have P4 := P3.add (sf' := xs4 ++ (xs3 ++ (xsf ++ sf))) k4 L4 (he4.imp id (fun z => ⟨List.mem_append_left _ z.1, z.2⟩)) (fun z hz => List.mem_append_right _ hz)
          have S4 := P3.str hw k4 S3
          have K4fA := fun z => P3.str hw k4 (K3fA z)
          refine o_28 (pc' := 249) rfl at_248 (by first | rfl | assumption) ?_
          exact o_s (k249 fA fB e4 h4 (xs4 ++ (xs3 ++ (xsf ++ sf))) (by rw [eJ]; simpa using P4) (by simp [hxs]) (by simp [hys]) K4fA (fun _ => by rw [ed]; exact S4)) (fun z hz => hz) (by exact Nat.le_of_ble_eq_true rfl) (by exact Nat.le_of_ble_eq_true rfl)
    have k180 : ∀ (fA e : Addr) (h2 : Heap) (sf : List Addr), o_27 K.Z h12 h2 sf D l e (o_w b1 o1 ++ o_18 (o_j p1) fA vA) → x ∈ sf → y ∈ sf → o_55 K.Z h2 (o_j p1) sw p1 fA → o_3 K M_law (o_c fun w _ _ => w = .int 1) 180 [.val (.int p0), .val (.int p1), .val (.int p2), .val (.int p3), .val (.int p4), .val (.int p5), .val (.int (if sw then 1 else 0)), .val (.ref x), .val (.ref y), .val (.ref o1), .val (.ref o2), .val (.ref o3), .val (.int (if b1 then 1 else 0)), .val (.int (if b2 then 1 else 0)), .val (.int (if b3 then 1 else 0)), .val (.int (o_j p1)), .val (.int (o_j p3)), .val (.ref vA), .val (.ref vB), .val (.ref l), .unset, .unset, .unset, .unset, .unset, .unset] [] sf h2 48 211 := by
      intro fA e h2 sf P hxs hys KfA
      have hlx : (o_w b1 o1 ++ o_18 (o_j p1) fA vA).length ≤ 3 := by
        have := o_25 b1 o1
        have := o_4v (o_j p1) fA vA
        first | omega | (simp only [List.length_append, List.length_nil] <;> omega) | simp
      refine o_a (pc' := 182) rfl at_180 rfl ?_
      cases b2
      · skip
        refine o_k (pcT := 195) (pcF := 185) at_182 (by decide) (by decide) rfl (fun y0 => ?_) (fun y0 => ?_)
        rotate_left 1
        · exact absurd (by decide) y0
        exact o_s (k195 fA e h2 sf (by simpa [o_w] using P) hxs hys KfA) (fun z hz => hz) (by exact Nat.le_of_ble_eq_true rfl) (by exact Nat.le_of_ble_eq_true rfl)
      · skip
        refine o_k (pcT := 195) (pcF := 185) at_182 (by decide) (by decide) rfl (fun y0 => ?_) (fun y0 => ?_)
        · exact absurd y0 (by decide)
        refine o_d (pc' := 187) rfl at_185 rfl (by first | rfl | assumption) ?_
        refine o_d (pc' := 189) rfl at_187 rfl (by first | rfl | assumption) ?_
        refine o_0u (M' := M_add) at_189 (pc' := 194) rfl (tw_254 hw) (tw_255 hw) (tw_256 hw) rfl (tw_257 hw) (tw_258 hw) (tw_259 hw) (tw_260 hw) (tw_165 hw) (tw_62 hw) (tw_261 hw) (by decide) rfl (o_6 pd_27 rfl) rfl rfl rfl rfl P.2.1.1 (c_add K a0 hw D SD l e o2 _ h2 (AD12.ext P.1) P.2.1 (Ins.of_exa (hO2.ext P.1).1 (tw_285 hw)) (by first | omega | (have h9 := hlx; simp only [List.length_append, List.length_cons, List.length_nil] at h9 ⊢; omega)) (P.ne hw) nDl) (o_1u P.2.2.2.2.1 P.2.2.2.2.2) ?_
        rintro w h3 xs3 ⟨rfl, k3, e3, he3, L3⟩
        have P3 := P.add (sf' := xs3 ++ sf) k3 L3 (he3.imp id (fun z => ⟨List.mem_append_left _ z.1, z.2⟩)) (fun z hz => List.mem_append_right _ hz)
        have K3fA := fun z => P.str hw k3 (KfA z)
        refine o_28 (pc' := 195) rfl at_194 (by first | rfl | assumption) ?_
        exact o_s (k195 fA e3 h3 (xs3 ++ sf) (by simpa [o_w] using P3) (by simp [hxs]) (by simp [hys]) K3fA) (fun z hz => hz) (by exact Nat.le_of_ble_eq_true rfl) (by exact Nat.le_of_ble_eq_true rfl)
    have k134 : ∀ (e : Addr) (h2 : Heap) (sf : List Addr), o_27 K.Z h12 h2 sf D l e (o_w b1 o1) → x ∈ sf → y ∈ sf → o_3 K M_law (o_c fun w _ _ => w = .int 1) 134 [.val (.int p0), .val (.int p1), .val (.int p2), .val (.int p3), .val (.int p4), .val (.int p5), .val (.int (if sw then 1 else 0)), .val (.ref x), .val (.ref y), .val (.ref o1), .val (.ref o2), .val (.ref o3), .val (.int (if b1 then 1 else 0)), .val (.int (if b2 then 1 else 0)), .val (.int (if b3 then 1 else 0)), .val (.int (o_j p1)), .val (.int (o_j p3)), .val (.ref vA), .val (.ref vB), .val (.ref l), .unset, .unset, .unset, .unset, .unset, .unset] [] sf h2 40 162 := by
      intro e h2 sf P hxs hys 
      have hlx : (o_w b1 o1).length ≤ 1 := by
        have := o_25 b1 o1
        first | omega | (simp only [List.length_append] <;> omega)
      have e2 : o_j p1 = 0 ∨ o_j p1 = 1 ∨ o_j p1 = 2 := o_51 (XT.ushr p1 18)
      refine o_a (pc' := 136) rfl at_134 rfl ?_
      rcases e2 with e2 | e2 | e2
      · have eJ : ∀ f : Addr, o_18 (o_j p1) f vA = [] := fun f => by unfold o_18; rw [if_pos e2]
        refine o_k (pcT := 180) (pcF := 139) at_136 (by decide) (by decide) rfl (fun y0 => ?_) (fun y0 => ?_)
        rotate_left 1
        · exact absurd e2 y0
        exact o_s (k180  l e h2 sf (by rw [eJ, List.append_nil]; exact P) hxs hys  (fun z => absurd e2 z)) (fun z hz => hz) (by exact Nat.le_of_ble_eq_true rfl) (by exact Nat.le_of_ble_eq_true rfl)
      · have eJ : ∀ f : Addr, o_18 (o_j p1) f vA = [.ref f] := fun f => by unfold o_18; rw [e2]; rfl
        have nz : ¬ o_j p1 = 0 := by rw [e2]; decide
        refine o_k (pcT := 180) (pcF := 139) at_136 (by decide) (by decide) rfl (fun y0 => ?_) (fun y0 => ?_)
        · exact absurd y0 nz
        have ed : decide (o_j p1 = 1) = true := by rw [e2]; rfl
        refine o_d (pc' := 141) rfl at_139 rfl (by first | rfl | assumption) ?_
        refine o_a (pc' := 143) rfl at_141 rfl ?_
        refine o_a (pc' := 145) rfl at_143 rfl ?_
        refine o_4 (v := (1 : Int32)) (pc' := 146) rfl at_145 rfl ?_
        refine o_07 (pcT := 153) (pcF := 149) at_146 (by decide) (by decide) rfl (fun y1 => ?_) (fun y1 => ?_)
        · exact absurd e2 y1
        refine o_4 (v := (1 : Int32)) (pc' := 150) rfl at_149 rfl ?_
        refine o_o (pc' := 154) at_150 (by decide) (by decide) ?_
        refine o_2 (pc' := 155) rfl at_154 rfl ?_
        refine o_13 (M' := M_flg) at_155 (pc' := 158) rfl (tw_286 hw) (tw_287 hw) (tw_46 hw) (tw_288 hw) (by decide) rfl (o_6 pd_64 rfl) rfl rfl rfl rfl (c_flg K a0 hw hnw hEL hme g SC hg sw true p1 h2) (by simp) ?_
        rintro w hf xsf ⟨fA, rfl, Ef, Sf⟩
        have Pf := P.grow (sf' := xsf ++ sf) Ef (fun z hz => List.mem_append_right _ hz)
        refine o_0u (M' := M_add) at_158 (pc' := 163) rfl (tw_254 hw) (tw_255 hw) (tw_256 hw) rfl (tw_257 hw) (tw_258 hw) (tw_259 hw) (tw_260 hw) (tw_165 hw) (tw_62 hw) (tw_261 hw) (by decide) rfl (o_6 pd_27 rfl) rfl rfl rfl rfl Pf.2.1.1 (c_add K a0 hw D SD l e fA _ hf (AD12.ext Pf.1) Pf.2.1 (Ins.of_exa (Sf).1 (tw_285 hw)) (by first | omega | (have h9 := hlx; simp only [List.length_append, List.length_cons, List.length_nil] at h9 ⊢; omega)) (Pf.ne hw) nDl) (o_1u Pf.2.2.2.2.1 Pf.2.2.2.2.2) ?_
        rintro w h3 xs3 ⟨rfl, k3, e3, he3, L3⟩
        have P3 := Pf.add (sf' := xs3 ++ (xsf ++ sf)) k3 L3 (he3.imp id (fun z => ⟨List.mem_append_left _ z.1, z.2⟩)) (fun z hz => List.mem_append_right _ hz)
        have S3 := Pf.str hw k3 Sf
        refine o_28 (pc' := 164) rfl at_163 (by first | rfl | assumption) ?_
        refine o_a (pc' := 166) rfl at_164 rfl ?_
        refine o_4 (v := (2 : Int32)) (pc' := 167) rfl at_166 rfl ?_
        refine o_07 (pcT := 180) (pcF := 170) at_167 (by decide) (by decide) rfl (fun y2 => ?_) (fun y2 => ?_)
        rotate_left 1
        · rw [e2] at y2; exact absurd y2 (by decide)
        exact o_s (k180  fA e3 h3 (xs3 ++ (xsf ++ sf)) (by rw [eJ]; exact P3) (by simp [hxs]) (by simp [hys])  (fun _ => by rw [ed]; exact S3)) (fun z hz => hz) (by exact Nat.le_of_ble_eq_true rfl) (by exact Nat.le_of_ble_eq_true rfl)
      · have eJ : ∀ f : Addr, o_18 (o_j p1) f vA = [.ref f, .ref vA] := fun f => by unfold o_18; rw [e2]; rfl
        have nz : ¬ o_j p1 = 0 := by rw [e2]; decide
        refine o_k (pcT := 180) (pcF := 139) at_136 (by decide) (by decide) rfl (fun y0 => ?_) (fun y0 => ?_)
        · exact absurd y0 nz
        have ed : decide (o_j p1 = 1) = false := by rw [e2]; rfl
        refine o_d (pc' := 141) rfl at_139 rfl (by first | rfl | assumption) ?_
        refine o_a (pc' := 143) rfl at_141 rfl ?_
        refine o_a (pc' := 145) rfl at_143 rfl ?_
        refine o_4 (v := (1 : Int32)) (pc' := 146) rfl at_145 rfl ?_
        refine o_07 (pcT := 153) (pcF := 149) at_146 (by decide) (by decide) rfl (fun y1 => ?_) (fun y1 => ?_)
        rotate_left 1
        · rw [e2] at y1; exact absurd y1 (by decide)
        refine o_4 (v := (0 : Int32)) (pc' := 154) rfl at_153 rfl ?_
        refine o_2 (pc' := 155) rfl at_154 rfl ?_
        refine o_13 (M' := M_flg) at_155 (pc' := 158) rfl (tw_286 hw) (tw_287 hw) (tw_46 hw) (tw_288 hw) (by decide) rfl (o_6 pd_64 rfl) rfl rfl rfl rfl (c_flg K a0 hw hnw hEL hme g SC hg sw false p1 h2) (by simp) ?_
        rintro w hf xsf ⟨fA, rfl, Ef, Sf⟩
        have Pf := P.grow (sf' := xsf ++ sf) Ef (fun z hz => List.mem_append_right _ hz)
        refine o_0u (M' := M_add) at_158 (pc' := 163) rfl (tw_254 hw) (tw_255 hw) (tw_256 hw) rfl (tw_257 hw) (tw_258 hw) (tw_259 hw) (tw_260 hw) (tw_165 hw) (tw_62 hw) (tw_261 hw) (by decide) rfl (o_6 pd_27 rfl) rfl rfl rfl rfl Pf.2.1.1 (c_add K a0 hw D SD l e fA _ hf (AD12.ext Pf.1) Pf.2.1 (Ins.of_exa (Sf).1 (tw_285 hw)) (by first | omega | (have h9 := hlx; simp only [List.length_append, List.length_cons, List.length_nil] at h9 ⊢; omega)) (Pf.ne hw) nDl) (o_1u Pf.2.2.2.2.1 Pf.2.2.2.2.2) ?_
        rintro w h3 xs3 ⟨rfl, k3, e3, he3, L3⟩
        have P3 := Pf.add (sf' := xs3 ++ (xsf ++ sf)) k3 L3 (he3.imp id (fun z => ⟨List.mem_append_left _ z.1, z.2⟩)) (fun z hz => List.mem_append_right _ hz)
        have S3 := Pf.str hw k3 Sf
        refine o_28 (pc' := 164) rfl at_163 (by first | rfl | assumption) ?_
        refine o_a (pc' := 166) rfl at_164 rfl ?_
        refine o_4 (v := (2 : Int32)) (pc' := 167) rfl at_166 rfl ?_
        refine o_07 (pcT := 180) (pcF := 170) at_167 (by decide) (by decide) rfl (fun y2 => ?_) (fun y2 => ?_)
        · exact absurd e2 y2
        refine o_d (pc' := 172) rfl at_170 rfl (by first | rfl | assumption) ?_
        refine o_d (pc' := 174) rfl at_172 rfl (by first | rfl | assumption) ?_
        refine o_0u (M' := M_add) at_174 (pc' := 179) rfl (tw_254 hw) (tw_255 hw) (tw_256 hw) rfl (tw_257 hw) (tw_258 hw) (tw_259 hw) (tw_260 hw) (tw_165 hw) (tw_62 hw) (tw_261 hw) (by decide) rfl (o_6 pd_27 rfl) rfl rfl rfl rfl P3.2.1.1 (c_add K a0 hw D SD l e3 vA _ h3 (AD12.ext P3.1) P3.2.1 (Ins.of_exa (hVA.ext P3.1).1 (tw_285 hw)) (by first | omega | (have h9 := hlx; simp only [List.length_append, List.length_cons, List.length_nil] at h9 ⊢; omega)) (P3.ne hw) nDl) (o_1u P3.2.2.2.2.1 P3.2.2.2.2.2) ?_
        rintro w h4 xs4 ⟨rfl, k4, e4, he4, L4⟩
        have P4 := P3.add (sf' := xs4 ++ (xs3 ++ (xsf ++ sf))) k4 L4 (he4.imp id (fun z => ⟨List.mem_append_left _ z.1, z.2⟩)) (fun z hz => List.mem_append_right _ hz)
        have S4 := P3.str hw k4 S3
        refine o_28 (pc' := 180) rfl at_179 (by first | rfl | assumption) ?_
        exact o_s (k180  fA e4 h4 (xs4 ++ (xs3 ++ (xsf ++ sf))) (by rw [eJ]; simpa using P4) (by simp [hxs]) (by simp [hys])  (fun _ => by rw [ed]; exact S4)) (fun z hz => hz) (by exact Nat.le_of_ble_eq_true rfl) (by exact Nat.le_of_ble_eq_true rfl)
    have k119 : ∀ (e : Addr) (h2 : Heap) (sf : List Addr), o_27 K.Z h12 h2 sf D l e (([] : List Value)) → x ∈ sf → y ∈ sf → o_3 K M_law (o_c fun w _ _ => w = .int 1) 119 [.val (.int p0), .val (.int p1), .val (.int p2), .val (.int p3), .val (.int p4), .val (.int p5), .val (.int (if sw then 1 else 0)), .val (.ref x), .val (.ref y), .val (.ref o1), .val (.ref o2), .val (.ref o3), .val (.int (if b1 then 1 else 0)), .val (.int (if b2 then 1 else 0)), .val (.int (if b3 then 1 else 0)), .val (.int (o_j p1)), .val (.int (o_j p3)), .val (.ref vA), .val (.ref vB), .val (.ref l), .unset, .unset, .unset, .unset, .unset, .unset] [] sf h2 39 152 := by
      intro e h2 sf P hxs hys 
      have hlx : (([] : List Value)).length ≤ 0 := by
        first | omega | (simp only [List.length_append, List.length_nil] <;> omega) | simp
      refine o_a (pc' := 121) rfl at_119 rfl ?_
      cases b1
      · skip
        refine o_k (pcT := 134) (pcF := 124) at_121 (by decide) (by decide) rfl (fun y0 => ?_) (fun y0 => ?_)
        rotate_left 1
        · exact absurd (by decide) y0
        exact o_s (k134  e h2 sf (by simpa [o_w] using P) hxs hys ) (fun z hz => hz) (by exact Nat.le_of_ble_eq_true rfl) (by exact Nat.le_of_ble_eq_true rfl)
      · skip
        refine o_k (pcT := 134) (pcF := 124) at_121 (by decide) (by decide) rfl (fun y0 => ?_) (fun y0 => ?_)
        · exact absurd y0 (by decide)
        refine o_d (pc' := 126) rfl at_124 rfl (by first | rfl | assumption) ?_
        refine o_d (pc' := 128) rfl at_126 rfl (by first | rfl | assumption) ?_
        refine o_0u (M' := M_add) at_128 (pc' := 133) rfl (tw_254 hw) (tw_255 hw) (tw_256 hw) rfl (tw_257 hw) (tw_258 hw) (tw_259 hw) (tw_260 hw) (tw_165 hw) (tw_62 hw) (tw_261 hw) (by decide) rfl (o_6 pd_27 rfl) rfl rfl rfl rfl P.2.1.1 (c_add K a0 hw D SD l e o1 _ h2 (AD12.ext P.1) P.2.1 (Ins.of_exa (hO1.ext P.1).1 (tw_285 hw)) (by first | omega | (have h9 := hlx; simp only [List.length_append, List.length_cons, List.length_nil] at h9 ⊢; omega)) (P.ne hw) nDl) (o_1u P.2.2.2.2.1 P.2.2.2.2.2) ?_
        rintro w h3 xs3 ⟨rfl, k3, e3, he3, L3⟩
        have P3 := P.add (sf' := xs3 ++ sf) k3 L3 (he3.imp id (fun z => ⟨List.mem_append_left _ z.1, z.2⟩)) (fun z hz => List.mem_append_right _ hz)
        refine o_28 (pc' := 134) rfl at_133 (by first | rfl | assumption) ?_
        exact o_s (k134  e3 h3 (xs3 ++ sf) (by simpa [o_w] using P3) (by simp [hxs]) (by simp [hys]) ) (fun z hz => hz) (by exact Nat.le_of_ble_eq_true rfl) (by exact Nat.le_of_ble_eq_true rfl)
    refine o_7h (pc' := 119) rfl at_117 (by first | exact One.u | exact One.val rfl | assumption | exact One.val (by assumption)) (by first | rfl | assumption) ?_
    exact o_s (k119 D h14 _ ⟨E14, L14, by omega, fun z => absurd rfl z, by simp, fun z => absurd rfl z⟩ (by simp [mx1]) (by simp)) (fun z hz => hz) (by exact Nat.le_of_ble_eq_true rfl) (by exact Nat.le_of_ble_eq_true rfl)
  refine o_7u (M := M_law) pn_law rfl (by first | rfl | exact o_5 (by assumption)) (by first | rfl | exact o_5 (by assumption)) (by first | rfl | exact o_5 (by assumption)) (by first | rfl | exact o_5 (by assumption)) (by first | rfl | exact o_5 (by assumption)) (by first | rfl | exact o_5 (by assumption)) ?_
  refine o_a (pc' := 2) rfl at_0 rfl ?_
  refine o_4 (v := (1 : Int32)) (pc' := 3) rfl at_2 rfl ?_
  refine o_1l (pc' := 4) rfl at_3 ?_
  refine o_k (pcT := 11) (pcF := 7) at_4 (by decide) (by decide) rfl (fun q => ?_) (fun q => ?_)
  · skip
    refine o_4 (v := (0 : Int32)) (pc' := 12) rfl at_11 rfl ?_
    refine o_1w (pc' := 14) rfl at_12 (by first | exact One.u | exact One.val rfl | assumption | exact One.val (by assumption)) ?_
    exact k14 false _
  · skip
    refine o_4 (v := (1 : Int32)) (pc' := 8) rfl at_7 rfl ?_
    refine o_o (pc' := 12) at_8 (by decide) (by decide) ?_
    refine o_1w (pc' := 14) rfl at_12 (by first | exact One.u | exact One.val rfl | assumption | exact One.val (by assumption)) ?_
    exact k14 true _
theorem o_71 {s : State} {args : Array Value} {t : Term} {D : Addr} {ty : FieldType} (ev : t.eval args s none [] s = some (.ref D)) (ha : (Jvm.Cond.arrayOf t ty).value args s none s [] = some true) (hl : (Jvm.Cond.eq (Term.length t) (Term.int 0)).value args s none s [] = some true) : o_g s s.heap D ty [] := by
  obtain ⟨c, A⟩ := Arr.start ev ha
  have hat : s.arrayAt? D = some c := A.fin (Vm.Alike.refl _)
  by_cases q : c.slots.size < 2 ^ 31
  · have e := len_f (t := t) ev hat q
    rw [Cond.eq_ints e (Term.int_eval (0))] at hl
    have h3 : c.slots.size.toInt32 = 0 := by simpa using hl
    have h4 : c.slots.size = 0 := by
      have z := o_0o _ q
      rw [h3] at z
      have z0 : (0 : Int32).toInt = 0 := rfl
      omega
    exact ⟨c, A, by simpa using Array.eq_empty_of_size_eq_zero h4, by decide⟩
  · have e : (Term.length t).eval args s none [] s = none := by simp [Term.eval, ev, hat, q]
    simp [Cond.value, e] at hl
theorem o_9j {s : State} {args : Array Value} {t : Term} (h : (Jvm.Cond.eq t Term.null).value args s none s [] = some true) : t.eval args s none [] s = some .null := by
  cases ha : t.eval args s none [] s with
  | none => simp [Cond.value, ha] at h
  | some v => cases v <;> simp [Cond.value, ha, Term.eval] at h ⊢
abbrev o_30 : List (String × Nat) := [("com/example/hand_balancer/handbalancer/cli/Arguments", 36), ("com/example/hand_balancer/handbalancer/cli/ArgumentsParsePinLaw", 24), ("com/example/hand_balancer/handbalancer/cli/ArgumentsParsePinLaw", 71), ("java/lang/String", 7), ("java/lang/StringLatin1", 151)]
theorem o_9v {a0 : Array Value} {Z : State} (hw : ∀ d ∈ tables_1, d.before a0 Z = true) : EW Z a0 o_30 := (EW.cons (hw _ (List.mem_of_getElem? (i := 310) rfl)) (by decide +kernel) (EW.cons (hw _ (List.mem_of_getElem? (i := 543) rfl)) (by decide +kernel) (EW.cons (hw _ (List.mem_of_getElem? (i := 170) rfl)) (by decide +kernel) (EW.cons (hw _ (List.mem_of_getElem? (i := 51) rfl)) (by decide +kernel) (EW.cons (hw _ (List.mem_of_getElem? (i := 411) rfl)) (by decide +kernel) EW.nil)))))
theorem comes_1 {Post : Tables → Env → Array Value → State → Outcome → State → Prop} (hpost : ∀ tb e args s v u, (limb_1_1.after args s (.returned v) u = true ∧ limb_1_2.after args s (.returned v) u = true ∧ True) → ReturnedEndW s (.returned v) u (Jvm.fieldLocs frame_1_writes args s ++ Jvm.arrayLocs frame_1_arrays args s ++ Jvm.staticLocs frame_1_statics s) 120 5568 → Post tb e args s (.returned v) u) :
    ArmFor flags0 classFile x code maxLocals ret World_1 tables_1 room_1 Calls_1 rest_1 Pre_1 Post := by
  intro l hfl _ _ p e ha hc hk s m args below hf hA hF happ hP
  obtain ⟨hcalls, hrest, hpre⟩ := hP
  obtain ⟨-, -, -, hnamed, -, -, -, hat⟩ := (Spec.applies_iff hf).mp happ
  obtain ⟨hg, hn⟩ := and_e (Cond.before_iff.mp (show (Jvm.Cond.and given_1 narrow_1).before args s = true from hpre))
  obtain ⟨gc, gv⟩ := and_e hg
  obtain ⟨g0, gv⟩ := and_e gv
  obtain ⟨g1, gv⟩ := and_e gv
  obtain ⟨g2, gv⟩ := and_e gv
  obtain ⟨g3, gv⟩ := and_e gv
  obtain ⟨g4, gv⟩ := and_e gv
  obtain ⟨w0, w1, w2, w3, w4, w5, rfl⟩ : ∃ w0 w1 w2 w3 w4 w5 : Value, args = #[w0, w1, w2, w3, w4, w5] := by
    have hs : args.size = 6 := by simpa [Cond.value, given_1] using gc
    obtain ⟨L⟩ := args
    match L, hs with
    | [w0, w1, w2, w3, w4, w5], _ => exact ⟨w0, w1, w2, w3, w4, w5, rfl⟩
  have hw := fun d (hd : d ∈ tables_1) => atoms_spec (ws := Jvm.Cond.code x code maxLocals ret :: tables_1) hat d (List.mem_cons_of_mem _ hd)
  obtain ⟨hsets, hown0⟩ := atoms_of _ (rest_1_c_eq ▸ (show rest_1_c.before _ s = true from hrest))
  have hfit : Fit s := fun {y c} hc i hi => by
    obtain ⟨ha, rfl⟩ := Array.getElem?_eq_some_iff.mp hc
    have q := List.all_eq_true.mp ((Array.all_eq_true_iff_forall_mem.mp hF) _ (Array.getElem_mem ha)) i (List.mem_range.mpr hi)
    simpa [Array.getElem?_eq_getElem hi] using q
  obtain ⟨p0, ev0⟩ := is_v g0
  obtain rfl : w0 = (.int p0) := Option.some.inj ev0
  obtain ⟨p1, ev1⟩ := is_v g1
  obtain rfl : w1 = (.int p1) := Option.some.inj ev1
  obtain ⟨p2, ev2⟩ := is_v g2
  obtain rfl : w2 = (.int p2) := Option.some.inj ev2
  obtain ⟨p3, ev3⟩ := is_v g3
  obtain rfl : w3 = (.int p3) := Option.some.inj ev3
  obtain ⟨p4, ev4⟩ := is_v g4
  obtain rfl : w4 = (.int p4) := Option.some.inj ev4
  obtain ⟨p5, ev5⟩ := is_v gv
  obtain rfl : w5 = (.int p5) := Option.some.inj ev5
  obtain ⟨gcs, ecs⟩ := is_v (Cond.before_iff.mp (hsets _ (List.mem_of_getElem? (i := 1) rfl)))
  have SC : Sta s s.heap "java/lang/String" "COMPACT_STRINGS" "Z" (.int gcs) := Sta.start ecs (Or.inl (hsets _ (List.mem_of_getElem? (i := 0) rfl)))
  have hgc : ¬ (gcs = (0 : Int32)) := gotF (Cond.eq_ints ecs (Term.int_eval (0))) (not_v (Cond.before_iff.mp (hsets _ (List.mem_of_getElem? (i := 2) rfl))))
  have hEW := o_9v hw
  have hCH : CHv s o_30 s.vm s.heap := CHv.start hEW (fun p hp => hcalls.2.1 p (by simpa [consts_1] using hp)) (hsets _ (List.mem_of_getElem? (i := 2) rfl)) (tw_14 hw) (tw_10 hw)
  obtain ⟨rf, erf, hrf⟩ := isR_v (Cond.before_iff.mp (hsets _ (List.mem_of_getElem? (i := 8) rfl)))
  have SF : Sta s s.heap "jdk/internal/util/Preconditions" "SIOOBE_FORMATTER" "Ljava/util/function/BiFunction;" rf := Sta.start erf (Or.inl (hsets _ (List.mem_of_getElem? (i := 7) rfl)))
  obtain ⟨D, evD⟩ := arr_v (Cond.before_iff.mp (hsets _ (List.mem_of_getElem? (i := 15) rfl)))
  have SD : Sta s s.heap o_0r "DEFAULTCAPACITY_EMPTY_ELEMENTDATA" o_11 (.ref D) := Sta.start evD (Or.inr ⟨(tw_62 hw), (hsets _ (List.mem_of_getElem? (i := 11) rfl))⟩)
  have AD : o_g s s.heap D (.object o_0m) [] := o_71 evD (Cond.before_iff.mp (hsets _ (List.mem_of_getElem? (i := 15) rfl))) (Cond.before_iff.mp (hsets _ (List.mem_of_getElem? (i := 17) rfl)))
  obtain ⟨cM, kM, mr, M1, M2, M3⟩ : ∃ (c : ClassId) (k : Class) (m : Addr), s.vm.findClass "[Ljava/lang/Object;" = some c ∧ s.vm.classes[c]? = some k ∧ k.mirror = some m := by obtain ⟨c, k, m, z1, z2, z3, -⟩ := hcalls.1; exact ⟨c, k, m, z1, z2, z3⟩
  have G : o_3h s o_11 mr := ⟨cM, kM, M1, M2, M3⟩
  obtain ⟨E0, ev0⟩ := exa_v (Cond.before_iff.mp (hsets _ (List.mem_of_getElem? (i := 31) rfl)))
  have S0 : Sta s s.heap o_2q "EMPTY" o_0f (.ref E0) := Sta.start ev0 (Or.inl (hsets _ (List.mem_of_getElem? (i := 30) rfl)))
  have XE0 : Exa s s.heap E0 o_0m := Exa.start ev0 (Cond.before_iff.mp (hsets _ (List.mem_of_getElem? (i := 31) rfl)))
  obtain ⟨el, evl⟩ := exa_v (Cond.before_iff.mp (hsets _ (List.mem_of_getElem? (i := 20) rfl)))
  have SL : Sta s s.heap o_2q "EMPTY_LIST" "Ljava/util/ImmutableCollections$ListN;" (.ref el) := Sta.start evl (Or.inl (hsets _ (List.mem_of_getElem? (i := 19) rfl)))
  have XL : Exa s s.heap el o_3a := Exa.start evl (Cond.before_iff.mp (hsets _ (List.mem_of_getElem? (i := 20) rfl)))
  obtain ⟨ea, eva⟩ := arr_v (Cond.before_iff.mp (hsets _ (List.mem_of_getElem? (i := 21) rfl)))
  have LE : o_3b s s.heap el [] := ⟨XL, ea, Fld.start ((fld_at evl).symm.trans eva), o_71 eva (Cond.before_iff.mp (hsets _ (List.mem_of_getElem? (i := 21) rfl))) (Cond.before_iff.mp (hsets _ (List.mem_of_getElem? (i := 23) rfl)))⟩
  obtain ⟨eo, evo⟩ := exa_v (Cond.before_iff.mp (hsets _ (List.mem_of_getElem? (i := 27) rfl)))
  have SE : Sta s s.heap o_1q "EMPTY" "Ljava/util/Optional;" (.ref eo) := Sta.start evo (Or.inl (hsets _ (List.mem_of_getElem? (i := 26) rfl)))
  have XE : Exa s s.heap eo o_1q := Exa.start evo (Cond.before_iff.mp (hsets _ (List.mem_of_getElem? (i := 27) rfl)))
  have FE : Fld s s.heap eo o_1q "value" o_0f .null := Fld.start ((fld_at evo).symm.trans (o_9j (Cond.before_iff.mp (hsets _ (List.mem_of_getElem? (i := 28) rfl)))))
  have main := c_law (l, s, o_30, false) _ hw rfl hEW (by show _ ∈ o_30; simp [o_30]) (by show _ ∈ o_30; simp [o_30]) (by show _ ∈ o_30; simp [o_30]) (by show _ ∈ o_30; simp [o_30]) (by show _ ∈ o_30; simp [o_30]) rf hrf SF gcs SC hgc D SD AD mr G E0 S0 XE0 el SL LE eo SE XE FE p0 p1 p2 p3 p4 p5
  obtain ⟨n, o, h1, h2, h3, v, L, xs, rfl, ⟨w, e0, hq⟩, N, hC, hS, hE, hR, hwm⟩ := main tables_1 p e ha hc hk s m _ below hf ((Spec.applies_iff_loose hf).mp happ).1 ⟨rfl, State.Warmed39.refl s, rfl, ⟨_, hEW⟩, hCH, (fun x hx => nomatch hx), o_3y _⟩ trivial
  subst e0
  subst hq
  refine ⟨n, _, h1, h2, h3, hpost _ _ _ _ _ _ ⟨Cond.after_iff.mpr rfl, Cond.after_iff.mpr (eq_i res_at (Term.int_eval (1)) rfl), trivial⟩ ⟨⟨_, rfl⟩, hR.2.1, hR.2.2.1, (hR.2.2.2.sift fun y hy => Or.inr (N y hy)).mono (by decide) (by decide)⟩⟩
theorem main_1_1 : Claimed_1_1 := comes_1 fun _ _ _ _ _ _ h hF => ⟨h.1, hF⟩
theorem main_1_2 : Claimed_1_2 := comes_1 fun _ _ _ _ _ _ h hF => ⟨h.2.1, hF⟩
end Jvm.Pilot.@@N@@
namespace Jvm.Pilot.@@N@@
open Jvm Jvm.ClassFile Sem Op Lib Jvm.Free Jvm.Stand Jvm.Pilot.@@N@@.Jvm.D
/-! MADE BY PROGRAM (witnessworld.py) out of the Statement's table words and the real class files: 52 classes; the members and pool entries that the words name. The judged class is class 1, her method 7. -/
namespace start1
open Jvm.ClassFile
def u (s : String) : CpInfo := .utf8 (stringToUtf16 s)
/-- a pool by its gaps: so many unusable entries, then the entry; so many at the end -/
def fe (a n d : Nat) : FieldInfo := { accessFlags := a, nameIndex := n, descriptorIndex := d, attributes := #[] }
def mi (a n d : Nat) : MethodInfo := { accessFlags := a, nameIndex := n, descriptorIndex := d, attributes := #[] }
def fi (n : String) (t : FieldType) (a s c : Nat) : Field := { name := n, type := t, accessFlags := a, slot := s, constantValue := c }
def co (s l : Nat) (b : ByteArray) : Code := { maxStack := s, maxLocals := l, code := b, exceptionTable := #[], attributes := #[] }
def me (n d : String) (ps : List FieldType) (r : Option FieldType) (a : Nat) (c : Option Code) : Method := { name := n, desc := d, sig := { parameters := ps, returnType := r }, accessFlags := a, code := c }
def gap : Nat → List CpInfo → List CpInfo
  | 0, r => r
  | n + 1, r => .unusable :: gap n r
def poolList (es : List (Nat × CpInfo)) (last : Nat) : List CpInfo := es.foldr (fun e r => gap e.1 (e.2 :: r)) (gap last [])
def pool (es : List (Nat × CpInfo)) (last : Nat) : Array CpInfo := ⟨poolList es last⟩
def fileOf (pool : Array CpInfo) (this : Nat) (attrs : Array Attribute := #[]) (ms : Array MethodInfo := #[]) (fl : Nat := 33) (sup : Nat := 0) (ifs : Array Nat := #[]) (fds : Array FieldInfo := #[]) : ClassFile where
  minorVersion := 0
  majorVersion := 65
  constantPool := pool
  accessFlags := fl
  thisClass := this
  superClass := sup
  interfaces := ifs
  fields := fds
  methods := ms
  attributes := attrs
def plain (name : String) (sup : Option ClassId) : Class where
  name := name
  kind := .ordinary
  loader := none
  accessFlags := 33
  super := sup
  interfaces := #[]
  cf := none
  fields := #[]
  methods := #[]
  instanceTypes := #[]
  staticTypes := #[]
  resolved := #[]
  callSites := []
  init := .initialized
  statics := none
  mirror := none

def pool0 : Array CpInfo := pool [(5, u "<init>"), (0, u "()V"), (1, .class_ 10), (1, u "java/lang/Object"), (0, u "getClass"), (0, u "()Ljava/lang/Class;"), (14, u "hashCode"), (0, u "()I"), (63, u "equals"), (0, u "(Ljava/lang/Object;)Z")] 30

def k0c0 : Code := co 0 1 object_method_1_code
def k0m0 : Method := me "<init>" "()V" [] none 1 (some k0c0)
def k0m1 : Method := me "getClass" "()Ljava/lang/Class;" [] (some (.object "java/lang/Class")) 273 none
def k0m2 : Method := me "hashCode" "()I" [] (some .int) 257 none
def k0c3 : Code := co 2 2 ⟨#[0x2a, 0x2b, 0xa6, 0x00, 0x07, 0x04, 0xa7, 0x00, 0x04, 0x03, 0xac]⟩
def k0m3 : Method := me "equals" "(Ljava/lang/Object;)Z" [(.object "java/lang/Object")] (some .boolean) 1 (some k0c3)
/-- java/lang/Object -/
def k0 : Class := { plain "java/lang/Object" none with
  accessFlags := 33
  interfaces := #[]
  cf := some (fileOf pool0 8 #[] #[mi 1 5 6, mi 273 11 12, mi 257 27 28, mi 1 92 93] 33 0 #[] #[])
  fields := #[]
  methods := #[k0m0, k0m1, k0m2, k0m3]
  instanceTypes := #[]
  staticTypes := #[]
  resolved := Array.replicate 124 none
  statics := none }

def pool1 : Array CpInfo := pool [(2, .class_ 4), (0, .nameAndType 5 6), (0, u "java/lang/Object"), (0, u "<init>"), (0, u "()V"), (0, .methodref 8 9), (0, .class_ 10), (0, .nameAndType 11 12), (0, u "com/example/hand_balancer/handbalancer/cli/ArgumentsParsePinLaw"), (0, u "len"), (0, u "(I)I"), (0, .class_ 14), (0, u "java/lang/String"), (0, .methodref 13 16), (0, .nameAndType 5 17), (0, u "([C)V"), (0, .methodref 19 20), (0, .class_ 21), (0, .nameAndType 22 23), (0, u "com/example/hand_balancer/handbalancer/cli/Arguments"), (0, u "milliseconds"), (0, u "(Ljava/lang/String;Ljava/time/Duration;J)Ljava/time/Duration;"), (0, .string 25), (0, u "h"), (0, .methodref 19 27), (0, .nameAndType 28 29), (0, u "required"), (0, u "(Ljava/lang/String;Ljava/lang/String;)Ljava/lang/String;"), (0, .methodref 13 31), (0, .nameAndType 32 33), (0, u "equals"), (0, u "(Ljava/lang/Object;)Z"), (0, .methodref 13 35), (0, .nameAndType 36 37), (0, u "valueOf"), (0, u "(C)Ljava/lang/String;"), (0, .methodref 8 39), (0, .nameAndType 40 41), (0, u "word"), (0, u "(IZ)Ljava/lang/String;"), (0, .methodref 8 43), (0, .nameAndType 44 45), (0, u "present"), (0, u "(I)Z"), (0, .methodref 8 47), (0, .nameAndType 48 12), (0, u "mode"), (0, .class_ 50), (0, u "java/util/ArrayList"), (0, .methodref 49 3), (0, .interfaceMethodref 53 54), (0, .class_ 55), (0, .nameAndType 56 33), (0, u "java/util/List"), (0, u "add"), (0, .methodref 8 58), (0, .nameAndType 59 60), (0, u "flag"), (0, u "(ZZI)Ljava/lang/String;"), (0, .interfaceMethodref 62 63), (0, .class_ 64), (0, .nameAndType 65 66), (0, u "java/util/Set"), (0, u "of"), (0, u "(Ljava/lang/Object;Ljava/lang/Object;)Ljava/util/Set;"), (0, .methodref 19 68), (0, .nameAndType 69 70), (0, u "parse"), (0, u "(Ljava/util/List;Ljava/util/Set;)Lcom/example/hand_balancer/handbalancer/cli/Arguments;"), (0, .string 72), (0, u "e"), (0, .methodref 19 74), (0, .nameAndType 75 76), (0, u "operands"), (0, u "(ILjava/lang/String;)Ljava/util/List;"), (0, .interfaceMethodref 53 78), (0, .nameAndType 79 80), (0, u "size"), (0, u "()I"), (0, .interfaceMethodref 53 82), (0, .nameAndType 83 84), (0, u "get"), (0, u "(I)Ljava/lang/Object;"), (0, .methodref 8 86), (0, .nameAndType 87 88), (0, u "check"), (0, u "(Lcom/example/hand_balancer/handbalancer/cli/Arguments;Ljava/lang/String;ILjava/lang/String;)Z"), (5, u "law"), (0, u "(IIIIII)Z")] 4

def k1m0 : Method := me "<init>" "()V" [] none 2 none
def k1c1 : Code := co 2 1 method_2_code
def k1m1 : Method := me "len" "(I)I" [.int] (some .int) 10 (some k1c1)
def k1c2 : Code := co 2 1 method_3_code
def k1m2 : Method := me "present" "(I)Z" [.int] (some .boolean) 10 (some k1c2)
def k1c3 : Code := co 2 1 method_4_code
def k1m3 : Method := me "mode" "(I)I" [.int] (some .int) 10 (some k1c3)
def k1c4 : Code := co 3 6 method_5_code
def k1m4 : Method := me "word" "(IZ)Ljava/lang/String;" [.int, .boolean] (some (.object "java/lang/String")) 10 (some k1c4)
def k1c5 : Code := co 3 9 method_6_code
def k1m5 : Method := me "flag" "(ZZI)Ljava/lang/String;" [.boolean, .boolean, .int] (some (.object "java/lang/String")) 10 (some k1c5)
def k1c6 : Code := co 5 4 method_7_code
def k1m6 : Method := me "check" "(Lcom/example/hand_balancer/handbalancer/cli/Arguments;Ljava/lang/String;ILjava/lang/String;)Z" [(.object "com/example/hand_balancer/handbalancer/cli/Arguments"), (.object "java/lang/String"), .int, (.object "java/lang/String")] (some .boolean) 10 (some k1c6)
def k1c7 : Code := co 6 26 code
def k1m7 : Method := me "law" "(IIIIII)Z" [.int, .int, .int, .int, .int, .int] (some .boolean) 9 (some k1c7)
/-- com/example/hand_balancer/handbalancer/cli/ArgumentsParsePinLaw -/
def k1 : Class := { plain "com/example/hand_balancer/handbalancer/cli/ArgumentsParsePinLaw" (some 0) with
  accessFlags := 49
  interfaces := #[]
  cf := some (fileOf pool1 8 #[] #[mi 2 5 6, mi 10 11 12, mi 10 44 45, mi 10 48 12, mi 10 40 41, mi 10 59 60, mi 10 87 88, mi 9 94 95] 49 2 #[] #[])
  fields := #[]
  methods := #[k1m0, k1m1, k1m2, k1m3, k1m4, k1m5, k1m6, k1m7]
  instanceTypes := #[]
  staticTypes := #[]
  resolved := Array.replicate 100 none
  statics := none }

def pool2 : Array CpInfo := pool [(1, .class_ 2), (0, u "java/io/Serializable"), (0, .class_ 4), (0, u "java/lang/Object")] 2

/-- java/io/Serializable -/
def k2 : Class := { plain "java/io/Serializable" (some 0) with
  accessFlags := 1537
  interfaces := #[]
  cf := some (fileOf pool2 1 #[] #[] 1537 3 #[] #[])
  fields := #[]
  methods := #[]
  instanceTypes := #[]
  staticTypes := #[]
  resolved := Array.replicate 7 none
  statics := none }

def pool3 : Array CpInfo := pool [(1, .class_ 2), (0, u "java/lang/Comparable"), (0, .class_ 4), (0, u "java/lang/Object")] 7

/-- java/lang/Comparable -/
def k3 : Class := { plain "java/lang/Comparable" (some 0) with
  accessFlags := 1537
  interfaces := #[]
  cf := some (fileOf pool3 1 #[] #[] 1537 3 #[] #[])
  fields := #[]
  methods := #[]
  instanceTypes := #[]
  staticTypes := #[]
  resolved := Array.replicate 12 none
  statics := none }

def pool4 : Array CpInfo := pool [(2, .class_ 4), (1, u "java/lang/CharSequence"), (42, .class_ 48), (0, u "java/lang/CharSequence$1CodePointIterator"), (10, .class_ 60), (0, u "java/lang/CharSequence$1CharIterator"), (5, .class_ 67), (0, u "java/lang/Object")] 63

/-- java/lang/CharSequence -/
def k4 : Class := { plain "java/lang/CharSequence" (some 0) with
  accessFlags := 1537
  interfaces := #[]
  cf := some (fileOf pool4 2 #[.nestMembers #[47, 59]] #[] 1537 66 #[] #[])
  fields := #[]
  methods := #[]
  instanceTypes := #[]
  staticTypes := #[]
  resolved := Array.replicate 131 none
  statics := none }

def pool5 : Array CpInfo := pool [(1, .class_ 2), (0, u "java/lang/constant/Constable"), (0, .class_ 4), (0, u "java/lang/Object")] 6

/-- java/lang/constant/Constable -/
def k5 : Class := { plain "java/lang/constant/Constable" (some 0) with
  accessFlags := 1537
  interfaces := #[]
  cf := some (fileOf pool5 1 #[] #[] 1537 3 #[] #[])
  fields := #[]
  methods := #[]
  instanceTypes := #[]
  staticTypes := #[]
  resolved := Array.replicate 11 none
  statics := none }

def pool6 : Array CpInfo := pool [(1, .class_ 2), (0, u "java/lang/constant/ConstantDesc"), (0, .class_ 4), (0, u "java/lang/Object")] 32

/-- java/lang/constant/ConstantDesc -/
def k6 : Class := { plain "java/lang/constant/ConstantDesc" (some 0) with
  accessFlags := 1537
  interfaces := #[]
  cf := some (fileOf pool6 1 #[] #[] 1537 3 #[] #[])
  fields := #[]
  methods := #[]
  instanceTypes := #[]
  staticTypes := #[]
  resolved := Array.replicate 37 none
  statics := none }

def pool7 : Array CpInfo := pool [(1, .methodref 2 3), (0, .class_ 4), (0, .nameAndType 5 6), (0, u "java/lang/Object"), (0, u "<init>"), (0, u "()V"), (0, .string 8), (0, u ""), (0, .fieldref 10 11), (0, .class_ 12), (0, .nameAndType 13 14), (0, u "java/lang/String"), (0, u "value"), (0, u "[B"), (0, .fieldref 10 16), (0, .nameAndType 17 18), (0, u "coder"), (0, u "B"), (0, .fieldref 10 20), (0, .nameAndType 21 22), (0, u "hash"), (0, u "I"), (0, .fieldref 10 24), (0, .nameAndType 25 26), (0, u "hashIsZero"), (0, u "Z"), (0, .methodref 10 28), (0, .nameAndType 5 29), (0, u "([CIILjava/lang/Void;)V"), (8, .fieldref 10 39), (0, .nameAndType 40 26), (0, u "COMPACT_STRINGS"), (1, .class_ 44), (1, u "java/lang/StringUTF16"), (0, u "compress"), (1, .methodref 42 48), (0, .nameAndType 49 50), (0, u "coderFromArrayLen"), (0, u "([BI)B"), (2, u "toBytes"), (53, .class_ 109), (1, u "java/lang/StringLatin1"), (32, u "()Z"), (34, .methodref 42 178), (0, .nameAndType 45 179), (0, u "([CII)[B"), (29, .methodref 10 210), (0, .nameAndType 5 211), (0, u "([BB)V"), (122, u "()I"), (0, .methodref 10 336), (0, .nameAndType 17 337), (0, u "()B"), (31, u "(C)Z"), (6, u "([BI[BII)I"), (115, .methodref 10 493), (0, .nameAndType 494 142), (0, u "isLatin1"), (10, .methodref 10 506), (0, .nameAndType 507 334), (0, u "length"), (5, u "checkFromToIndex"), (7, .methodref 10 522), (0, .nameAndType 523 524), (0, u "checkBoundsBeginEnd"), (0, u "(III)V"), (16, .methodref 107 542), (0, .nameAndType 543 544), (0, u "equals"), (0, u "([B[B)Z"), (14, .class_ 561), (1, u "jdk/internal/util/ArraysSupport"), (0, u "mismatch"), (10, u "(Ljava/lang/Object;)Z"), (1, .class_ 576), (0, u "java/lang/CharSequence"), (22, u "CASE_INSENSITIVE_ORDER"), (0, u "Ljava/util/Comparator;"), (6, .methodref 559 608), (0, .nameAndType 562 376), (15, .methodref 10 625), (0, .nameAndType 626 627), (0, u "startsWith"), (0, u "(Ljava/lang/String;I)Z"), (0, .methodref 107 629), (0, .nameAndType 630 631), (0, u "hashCode"), (0, u "([B)I"), (1, .methodref 10 634), (0, .nameAndType 635 636), (0, u "indexOf"), (0, u "(II)I"), (0, .methodref 107 638), (0, .nameAndType 635 639), (0, u "([BIII)I"), (41, .methodref 10 682), (0, .nameAndType 683 684), (0, u "substring"), (0, u "(II)Ljava/lang/String;"), (0, .methodref 107 686), (0, .nameAndType 687 688), (0, u "newString"), (0, u "([BII)Ljava/lang/String;"), (76, u "(I)I"), (16, u "valueOf"), (0, u "(C)Ljava/lang/String;"), (108, u "(I)Ljava/lang/String;"), (117, u "([C)V"), (4, .methodref 107 1016), (0, .nameAndType 1017 369), (0, u "canEncode"), (0, .methodref 107 1019), (0, .nameAndType 53 1020), (0, u "(C)[B"), (32, .fieldref 1054 1055), (0, .class_ 1056), (0, .nameAndType 1057 1058), (0, u "jdk/internal/util/Preconditions"), (0, u "SIOOBE_FORMATTER"), (0, u "Ljava/util/function/BiFunction;"), (3, .methodref 1054 1063), (0, .nameAndType 513 1064), (0, u "(IIILjava/util/function/BiFunction;)I"), (36, u "serialPersistentFields"), (0, u "[Ljava/io/ObjectStreamField;"), (0, .class_ 1104), (0, u "java/lang/String$CaseInsensitiveComparator"), (1, .class_ 1107), (0, u "java/io/Serializable"), (0, .class_ 1109), (0, u "java/lang/Comparable"), (0, .class_ 1111), (0, u "java/lang/constant/Constable"), (0, .class_ 1113), (0, u "java/lang/constant/ConstantDesc"), (2, u "serialVersionUID"), (0, u "J"), (3, u "REPL"), (0, u "C"), (2, u "LATIN1"), (1, u "UTF16"), (129, u "(Ljava/lang/String;)Z")] 193

def k7m0 : Method := me "<init>" "()V" [] none 1 none
def k7c1 : Code := co 5 2 jdk_42_method_3_code
def k7m1 : Method := me "<init>" "([C)V" [(.array .char)] none 1 (some k7c1)
def k7c2 : Code := co 2 1 jdk_42_method_54_code
def k7m2 : Method := me "length" "()I" [] (some .int) 1 (some k7c2)
def k7c3 : Code := co 2 3 jdk_42_method_66_code
def k7m3 : Method := me "equals" "(Ljava/lang/Object;)Z" [(.object "java/lang/Object")] (some .boolean) 1 (some k7c3)
def k7c4 : Code := co 5 8 jdk_42_method_75_code
def k7m4 : Method := me "startsWith" "(Ljava/lang/String;I)Z" [(.object "java/lang/String"), .int] (some .boolean) 1 (some k7c4)
def k7c5 : Code := co 3 2 jdk_42_method_76_code
def k7m5 : Method := me "startsWith" "(Ljava/lang/String;)Z" [(.object "java/lang/String")] (some .boolean) 1 (some k7c5)
def k7c6 : Code := co 2 2 jdk_42_method_78_code
def k7m6 : Method := me "hashCode" "()I" [] (some .int) 1 (some k7c6)
def k7c7 : Code := co 3 2 jdk_42_method_79_code
def k7m7 : Method := me "indexOf" "(I)I" [.int] (some .int) 1 (some k7c7)
def k7c8 : Code := co 4 3 jdk_42_method_80_code
def k7m8 : Method := me "indexOf" "(II)I" [.int, .int] (some .int) 1 (some k7c8)
def k7c9 : Code := co 3 2 jdk_42_method_91_code
def k7m9 : Method := me "substring" "(I)Ljava/lang/String;" [.int] (some (.object "java/lang/String")) 1 (some k7c9)
def k7c10 : Code := co 3 5 jdk_42_method_92_code
def k7m10 : Method := me "substring" "(II)Ljava/lang/String;" [.int, .int] (some (.object "java/lang/String")) 1 (some k7c10)
def k7c11 : Code := co 4 1 jdk_42_method_139_code
def k7m11 : Method := me "valueOf" "(C)Ljava/lang/String;" [.char] (some (.object "java/lang/String")) 9 (some k7c11)
def k7c12 : Code := co 4 6 jdk_42_method_149_code
def k7m12 : Method := me "<init>" "([CIILjava/lang/Void;)V" [(.array .char), .int, .int, (.object "java/lang/Void")] none 2 (some k7c12)
def k7c13 : Code := co 2 3 jdk_42_method_151_code
def k7m13 : Method := me "<init>" "([BB)V" [(.array .byte), .byte] none 0 (some k7c13)
def k7c14 : Code := co 1 1 jdk_42_method_152_code
def k7m14 : Method := me "coder" "()B" [] (some .byte) 0 (some k7c14)
def k7c15 : Code := co 1 1 jdk_42_method_154_code
def k7m15 : Method := me "isLatin1" "()Z" [] (some .boolean) 0 (some k7c15)
def k7c16 : Code := co 4 3 jdk_42_method_158_code
def k7m16 : Method := me "checkBoundsBeginEnd" "(III)V" [.int, .int, .int] none 8 (some k7c16)
/-- java/lang/String -/
def k7 : Class := { plain "java/lang/String" (some 0) with
  accessFlags := 49
  interfaces := #[2, 3, 4, 5, 6]
  cf := some (fileOf pool7 10 #[.nestMembers #[1103]] #[mi 1 5 6, mi 1 5 1010, mi 1 507 334, mi 1 543 573, mi 1 626 627, mi 1 626 1257, mi 1 630 334, mi 1 635 765, mi 1 635 636, mi 1 683 892, mi 1 683 684, mi 9 782 783, mi 2 5 29, mi 0 5 211, mi 0 17 337, mi 0 494 142, mi 8 523 524] 49 2 #[1106, 1108, 575, 1110, 1112] #[fe 18 13 14, fe 18 17 18, fe 2 21 22, fe 2 25 26, fe 26 1116 1117, fe 24 40 26, fe 26 1101 1102, fe 26 1121 1122, fe 25 599 600, fe 24 1125 18, fe 24 1127 18])
  fields := #[fi "value" (.array .byte) 18 0 0, fi "coder" .byte 18 1 0, fi "hash" .int 2 2 0, fi "hashIsZero" .boolean 2 3 0, fi "serialVersionUID" .long 26 0 0, fi "COMPACT_STRINGS" .boolean 24 1 0, fi "serialPersistentFields" (.array (.object "java/io/ObjectStreamField")) 26 2 0, fi "REPL" .char 26 3 0, fi "CASE_INSENSITIVE_ORDER" (.object "java/util/Comparator") 25 4 0, fi "LATIN1" .byte 24 5 0, fi "UTF16" .byte 24 6 0]
  methods := #[k7m0, k7m1, k7m2, k7m3, k7m4, k7m5, k7m6, k7m7, k7m8, k7m9, k7m10, k7m11, k7m12, k7m13, k7m14, k7m15, k7m16]
  instanceTypes := #[(.array .byte), .byte, .int, .boolean]
  staticTypes := #[.long, .boolean, (.array (.object "java/io/ObjectStreamField")), .char, (.object "java/util/Comparator"), .byte, .byte]
  resolved := Array.replicate 1451 none
  statics := some 0 }

def pool8 : Array CpInfo := pool [(1, .class_ 2), (0, u "java/lang/String"), (1, .class_ 6), (1, u "java/lang/Object"), (0, u "<init>"), (0, u "()V"), (5, .class_ 16), (1, u "java/lang/StringLatin1"), (21, .methodref 39 40), (0, .class_ 41), (0, .nameAndType 42 43), (0, u "java/lang/Math"), (0, u "min"), (0, u "(II)I"), (1, .class_ 47), (1, u "jdk/internal/util/ArraysSupport"), (9, u "([B)I"), (26, .methodref 45 85), (0, .nameAndType 86 87), (0, u "vectorizedHashCode"), (0, u "(Ljava/lang/Object;IIII)I"), (0, .methodref 14 89), (0, .nameAndType 90 91), (0, u "canEncode"), (0, u "(I)Z"), (0, .methodref 39 93), (0, .nameAndType 94 43), (0, u "max"), (0, .methodref 14 96), (0, .nameAndType 97 98), (0, u "indexOfChar"), (0, u "([BIII)I"), (2, u "indexOf"), (3, u "(C)Z"), (6, .methodref 1 113), (0, .nameAndType 7 114), (0, u "([BB)V"), (6, u "$assertionsDisabled"), (0, u "Z"), (8, .class_ 133), (1, u "java/util/Arrays"), (17, .string 152), (0, u ""), (43, u "newString"), (0, u "([BII)Ljava/lang/String;"), (23, .class_ 223), (1, u "java/lang/StringLatin1$LinesSpliterator"), (8, .methodref 131 233), (0, .nameAndType 234 235), (0, u "copyOfRange"), (0, u "([BII)[B"), (45, u "equals"), (0, u "([B[B)Z"), (15, u "hashCode"), (81, u "toBytes"), (1, u "(C)[B"), (7, .class_ 391), (0, u "java/lang/StringLatin1$CharsSpliterator")] 3

def k8m0 : Method := me "<init>" "()V" [] none 0 none
def k8c1 : Code := co 2 1 jdk_43_method_3_code
def k8m1 : Method := me "canEncode" "(C)Z" [.char] (some .boolean) 9 (some k8c1)
def k8c2 : Code := co 2 1 jdk_43_method_4_code
def k8m2 : Method := me "canEncode" "(I)Z" [.int] (some .boolean) 9 (some k8c2)
def k8c3 : Code := co 3 3 jdk_43_method_13_code
def k8m3 : Method := me "equals" "([B[B)Z" [(.array .byte), (.array .byte)] (some .boolean) 9 (some k8c3)
def k8c4 : Code := co 5 1 jdk_43_method_21_code
def k8m4 : Method := me "hashCode" "([B)I" [(.array .byte)] (some .int) 9 (some k8c4)
def k8c5 : Code := co 4 4 jdk_43_method_22_code
def k8m5 : Method := me "indexOf" "([BIII)I" [(.array .byte), .int, .int, .int] (some .int) 9 (some k8c5)
def k8c6 : Code := co 2 6 jdk_43_method_23_code
def k8m6 : Method := me "indexOfChar" "([BIII)I" [(.array .byte), .int, .int, .int] (some .int) 10 (some k8c6)
def k8c7 : Code := co 4 1 jdk_43_method_46_code
def k8m7 : Method := me "toBytes" "(C)[B" [.char] (some (.array .byte)) 9 (some k8c7)
def k8c8 : Code := co 6 3 jdk_43_method_47_code
def k8m8 : Method := me "newString" "([BII)Ljava/lang/String;" [(.array .byte), .int, .int] (some (.object "java/lang/String")) 9 (some k8c8)
/-- java/lang/StringLatin1 -/
def k8 : Class := { plain "java/lang/StringLatin1" (some 0) with
  accessFlags := 48
  interfaces := #[]
  cf := some (fileOf pool8 14 #[.nestMembers #[390, 221]] #[mi 0 7 8, mi 9 90 105, mi 9 90 91, mi 9 281 282, mi 9 298 57, mi 9 101 98, mi 10 97 98, mi 9 380 382, mi 9 196 197] 48 4 #[] #[fe 4120 121 122])
  fields := #[fi "$assertionsDisabled" .boolean 4120 0 0]
  methods := #[k8m0, k8m1, k8m2, k8m3, k8m4, k8m5, k8m6, k8m7, k8m8]
  instanceTypes := #[]
  staticTypes := #[.boolean]
  resolved := Array.replicate 395 none
  statics := none }

def pool9 : Array CpInfo := pool [(6, .class_ 8), (1, u "java/lang/Object"), (0, u "<init>"), (0, u "()V"), (1, .class_ 14), (1, u "java/lang/StringUTF16"), (31, u "$assertionsDisabled"), (0, u "Z"), (13, u "HI_BYTE_SHIFT"), (0, u "I"), (2, u "LO_BYTE_SHIFT"), (49, .methodref 12 116), (0, .nameAndType 117 118), (0, u "compress"), (0, u "([CI[BII)I"), (3, u "([CII)[B"), (138, u "coderFromArrayLen"), (0, u "([BI)B"), (106, .class_ 371), (1, u "java/lang/StringUTF16$LinesSpliterator"), (58, u "MAX_LENGTH"), (196, .class_ 628), (0, u "java/lang/StringUTF16$CodePointsSpliterator"), (0, .class_ 630), (0, u "java/lang/StringUTF16$CharsSpliterator")] 4

def k9m0 : Method := me "<init>" "()V" [] none 0 none
def k9c1 : Code := co 2 2 jdk_52_method_15_code
def k9m1 : Method := me "coderFromArrayLen" "([BI)B" [(.array .byte), .int] (some .byte) 8 (some k9c1)
def k9c2 : Code := co 5 6 jdk_52_method_16_code
def k9m2 : Method := me "compress" "([CII)[B" [(.array .char), .int, .int] (some (.array .byte)) 9 (some k9c2)
def k9c3 : Code := co 3 7 jdk_52_method_21_code
def k9m3 : Method := me "compress" "([CI[BII)I" [(.array .char), .int, (.array .byte), .int, .int] (some .int) 9 (some k9c3)
/-- java/lang/StringUTF16 -/
def k9 : Class := { plain "java/lang/StringUTF16" (some 0) with
  accessFlags := 48
  interfaces := #[]
  cf := some (fileOf pool9 12 #[.nestMembers #[627, 629, 369]] #[mi 0 9 10, mi 8 261 262, mi 9 117 122, mi 9 117 118] 48 6 #[] #[fe 26 61 62, fe 26 65 62, fe 24 430 62, fe 4120 46 47])
  fields := #[fi "HI_BYTE_SHIFT" .int 26 0 0, fi "LO_BYTE_SHIFT" .int 26 1 0, fi "MAX_LENGTH" .int 24 2 0, fi "$assertionsDisabled" .boolean 4120 3 0]
  methods := #[k9m0, k9m1, k9m2, k9m3]
  instanceTypes := #[]
  staticTypes := #[.int, .int, .int, .boolean]
  resolved := Array.replicate 635 none
  statics := none }

def pool10 : Array CpInfo := pool [(8, .class_ 10), (1, u "java/lang/Iterable"), (24, .class_ 36), (0, u "java/lang/Object")] 25

/-- java/lang/Iterable -/
def k10 : Class := { plain "java/lang/Iterable" (some 0) with
  accessFlags := 1537
  interfaces := #[]
  cf := some (fileOf pool10 8 #[] #[] 1537 35 #[] #[])
  fields := #[]
  methods := #[]
  instanceTypes := #[]
  staticTypes := #[]
  resolved := Array.replicate 62 none
  statics := none }

def pool11 : Array CpInfo := pool [(10, .class_ 12), (1, u "java/util/Collection"), (0, u "toArray"), (16, u "()Z"), (29, .class_ 61), (0, u "java/lang/Object"), (0, .class_ 63), (0, u "java/lang/Iterable"), (2, u "isEmpty"), (3, u "()[Ljava/lang/Object;")] 44

def k11m0 : Method := me "isEmpty" "()Z" [] (some .boolean) 1025 none
def k11m1 : Method := me "toArray" "()[Ljava/lang/Object;" [] (some (.array (.object "java/lang/Object"))) 1025 none
/-- java/util/Collection -/
def k11 : Class := { plain "java/util/Collection" (some 0) with
  accessFlags := 1537
  interfaces := #[10]
  cf := some (fileOf pool11 10 #[] #[mi 1025 66 30, mi 1025 13 70] 1537 60 #[62] #[])
  fields := #[]
  methods := #[k11m0, k11m1]
  instanceTypes := #[]
  staticTypes := #[]
  resolved := Array.replicate 115 none
  statics := none }

def pool12 : Array CpInfo := pool [(1, .methodref 2 3), (0, .class_ 4), (0, .nameAndType 5 6), (0, u "java/lang/Object"), (0, u "<init>"), (0, u "()V"), (1, .class_ 10), (1, u "java/util/AbstractCollection"), (66, .class_ 78), (0, u "java/util/Collection")] 81

def k12c0 : Code := co 1 1 jdk_22_method_1_code
def k12m0 : Method := me "<init>" "()V" [] none 4 (some k12c0)
/-- java/util/AbstractCollection -/
def k12 : Class := { plain "java/util/AbstractCollection" (some 0) with
  accessFlags := 1057
  interfaces := #[11]
  cf := some (fileOf pool12 8 #[] #[mi 4 5 6] 1057 2 #[77] #[])
  fields := #[]
  methods := #[k12m0]
  instanceTypes := #[]
  staticTypes := #[]
  resolved := Array.replicate 160 none
  statics := none }

def pool13 : Array CpInfo := pool [(8, .class_ 10), (1, u "java/util/SequencedCollection"), (15, .class_ 27), (0, u "java/lang/Object"), (0, .class_ 29), (0, u "java/util/Collection")] 27

/-- java/util/SequencedCollection -/
def k13 : Class := { plain "java/util/SequencedCollection" (some 0) with
  accessFlags := 1537
  interfaces := #[11]
  cf := some (fileOf pool13 8 #[] #[] 1537 26 #[28] #[])
  fields := #[]
  methods := #[]
  instanceTypes := #[]
  staticTypes := #[]
  resolved := Array.replicate 57 none
  statics := none }

def pool14 : Array CpInfo := pool [(8, .class_ 10), (1, u "java/util/List"), (20, u "(Ljava/lang/Object;)V"), (16, u "<init>"), (11, u "add"), (3, u "(Ljava/lang/Object;)Z"), (10, u "get"), (0, u "(I)Ljava/lang/Object;"), (2, u "size"), (0, u "()I"), (7, u "of"), (1, .fieldref 91 92), (0, .class_ 93), (0, .nameAndType 94 95), (0, u "java/util/ImmutableCollections"), (0, u "EMPTY_LIST"), (0, u "Ljava/util/ImmutableCollections$ListN;"), (0, .class_ 97), (0, u "java/util/ImmutableCollections$List12"), (0, .methodref 96 99), (0, .nameAndType 48 31), (0, .methodref 96 101), (0, .nameAndType 48 102), (0, u "(Ljava/lang/Object;Ljava/lang/Object;)V"), (0, .class_ 104), (0, u "java/lang/Object"), (3, u "([Ljava/lang/Object;)Ljava/util/List;"), (0, .methodref 91 110), (0, .nameAndType 111 108), (0, u "listFromArray"), (0, .methodref 91 113), (0, .nameAndType 114 115), (0, u "listCopy"), (0, u "(Ljava/util/Collection;)Ljava/util/List;"), (3, u "()Ljava/util/List;"), (0, .class_ 121), (0, u "java/util/SequencedCollection"), (112, u "copyOf")] 16

def k14m0 : Method := me "size" "()I" [] (some .int) 1025 none
def k14m1 : Method := me "add" "(Ljava/lang/Object;)Z" [(.object "java/lang/Object")] (some .boolean) 1025 none
def k14m2 : Method := me "get" "(I)Ljava/lang/Object;" [.int] (some (.object "java/lang/Object")) 1025 none
def k14c3 : Code := co 1 0 jdk_40_method_36_code
def k14m3 : Method := me "of" "()Ljava/util/List;" [] (some (.object "java/util/List")) 9 (some k14c3)
def k14c4 : Code := co 5 2 jdk_40_method_47_code
def k14m4 : Method := me "of" "([Ljava/lang/Object;)Ljava/util/List;" [(.array (.object "java/lang/Object"))] (some (.object "java/util/List")) 137 (some k14c4)
def k14c5 : Code := co 1 1 jdk_40_method_48_code
def k14m5 : Method := me "copyOf" "(Ljava/util/Collection;)Ljava/util/List;" [(.object "java/util/Collection")] (some (.object "java/util/List")) 9 (some k14c5)
/-- java/util/List -/
def k14 : Class := { plain "java/util/List" (some 0) with
  accessFlags := 1537
  interfaces := #[13]
  cf := some (fileOf pool14 8 #[] #[mi 1025 79 80, mi 1025 60 64, mi 1025 75 76, mi 9 88 119, mi 137 88 108, mi 9 234 115] 1537 103 #[120] #[])
  fields := #[]
  methods := #[k14m0, k14m1, k14m2, k14m3, k14m4, k14m5]
  instanceTypes := #[]
  staticTypes := #[]
  resolved := Array.replicate 251 none
  statics := none }

def pool15 : Array CpInfo := pool [(1, .methodref 2 3), (0, .class_ 4), (0, .nameAndType 5 6), (0, u "java/util/AbstractCollection"), (0, u "<init>"), (0, u "()V"), (0, .fieldref 8 9), (0, .class_ 10), (0, .nameAndType 11 12), (0, u "java/util/AbstractList"), (0, u "modCount"), (0, u "I"), (64, .class_ 78), (0, u "java/util/AbstractList$Itr"), (3, .class_ 83), (0, u "java/util/AbstractList$ListItr"), (9, .class_ 94), (0, u "java/util/AbstractList$RandomAccessSubList"), (3, .class_ 99), (0, u "java/util/AbstractList$SubList"), (33, .class_ 134), (0, u "java/util/List"), (73, .class_ 209), (0, u "java/util/AbstractList$SubList$1"), (0, .class_ 211), (0, u "java/util/AbstractList$RandomAccessSpliterator")] 6

def k15c0 : Code := co 2 1 jdk_39_method_1_code
def k15m0 : Method := me "<init>" "()V" [] none 4 (some k15c0)
/-- java/util/AbstractList -/
def k15 : Class := { plain "java/util/AbstractList" (some 12) with
  accessFlags := 1057
  interfaces := #[14]
  cf := some (fileOf pool15 8 #[.nestMembers #[93, 98, 208, 210, 82, 77]] #[mi 4 5 6] 1057 2 #[133] #[fe 132 11 12])
  fields := #[fi "modCount" .int 132 0 0]
  methods := #[k15m0]
  instanceTypes := #[.int]
  staticTypes := #[]
  resolved := Array.replicate 218 none
  statics := none }

def pool16 : Array CpInfo := pool [(1, .class_ 2), (0, u "java/util/RandomAccess"), (0, .class_ 4), (0, u "java/lang/Object")] 2

/-- java/util/RandomAccess -/
def k16 : Class := { plain "java/util/RandomAccess" (some 0) with
  accessFlags := 1537
  interfaces := #[]
  cf := some (fileOf pool16 1 #[] #[] 1537 3 #[] #[])
  fields := #[]
  methods := #[]
  instanceTypes := #[]
  staticTypes := #[]
  resolved := Array.replicate 7 none
  statics := none }

def pool17 : Array CpInfo := pool [(1, .class_ 2), (0, u "java/lang/Cloneable"), (0, .class_ 4), (0, u "java/lang/Object")] 2

/-- java/lang/Cloneable -/
def k17 : Class := { plain "java/lang/Cloneable" (some 0) with
  accessFlags := 1537
  interfaces := #[]
  cf := some (fileOf pool17 1 #[] #[] 1537 3 #[] #[])
  fields := #[]
  methods := #[]
  instanceTypes := #[]
  staticTypes := #[]
  resolved := Array.replicate 7 none
  statics := none }

def pool18 : Array CpInfo := pool [(1, .methodref 2 3), (0, .class_ 4), (0, .nameAndType 5 6), (0, u "java/util/AbstractList"), (0, u "<init>"), (0, u "()V"), (0, .class_ 8), (0, u "java/lang/Object"), (0, .fieldref 10 11), (0, .class_ 12), (0, .nameAndType 13 14), (0, u "java/util/ArrayList"), (0, u "elementData"), (0, u "[Ljava/lang/Object;"), (2, u "EMPTY_ELEMENTDATA"), (21, .fieldref 10 40), (0, .nameAndType 41 14), (0, u "DEFAULTCAPACITY_EMPTY_ELEMENTDATA"), (4, u "toArray"), (0, u "()[Ljava/lang/Object;"), (0, .fieldref 10 49), (0, .nameAndType 50 51), (0, u "size"), (0, u "I"), (6, .class_ 60), (1, u "java/util/Arrays"), (0, u "copyOf"), (1, .fieldref 10 64), (0, .nameAndType 65 51), (0, u "modCount"), (0, .methodref 58 67), (0, .nameAndType 61 68), (0, u "([Ljava/lang/Object;I)[Ljava/lang/Object;"), (0, .methodref 10 70), (0, .nameAndType 71 72), (0, u "grow"), (0, u "(I)[Ljava/lang/Object;"), (6, .methodref 80 81), (0, .class_ 82), (0, .nameAndType 83 84), (0, u "java/lang/Math"), (0, u "max"), (0, u "(II)I"), (11, u "(Ljava/lang/Object;)Z"), (21, .methodref 119 120), (0, .class_ 121), (0, .nameAndType 122 84), (0, u "java/util/Objects"), (0, u "checkIndex"), (0, .methodref 10 124), (0, .nameAndType 13 125), (0, u "(I)Ljava/lang/Object;"), (3, .methodref 10 130), (0, .nameAndType 71 47), (0, .methodref 10 132), (0, .nameAndType 133 134), (0, u "add"), (0, u "(Ljava/lang/Object;[Ljava/lang/Object;I)V"), (13, .class_ 149), (0, u "java/util/List"), (23, u "()Z"), (12, u "()I"), (75, .class_ 263), (0, u "java/util/ArrayList$ListItr"), (3, .class_ 268), (0, u "java/util/ArrayList$Itr"), (7, .class_ 277), (0, u "java/util/ArrayList$SubList"), (12, .class_ 291), (0, u "java/util/ArrayList$ArrayListSpliterator"), (37, .class_ 330), (0, u "java/util/RandomAccess"), (0, .class_ 332), (0, u "java/lang/Cloneable"), (0, .class_ 334), (0, u "java/io/Serializable"), (0, u "serialVersionUID"), (0, u "J"), (3, u "DEFAULT_CAPACITY"), (22, u "isEmpty"), (17, u "get"), (118, .class_ 501), (0, u "java/util/ArrayList$SubList$2"), (0, .class_ 503), (0, u "java/util/ArrayList$SubList$1")] 5

def k18c0 : Code := co 2 1 jdk_38_method_2_code
def k18m0 : Method := me "<init>" "()V" [] none 1 (some k18c0)
def k18c1 : Code := co 4 4 jdk_38_method_6_code
def k18m1 : Method := me "grow" "(I)[Ljava/lang/Object;" [.int] (some (.array (.object "java/lang/Object"))) 2 (some k18c1)
def k18c2 : Code := co 3 1 jdk_38_method_7_code
def k18m2 : Method := me "grow" "()[Ljava/lang/Object;" [] (some (.array (.object "java/lang/Object"))) 2 (some k18c2)
def k18c3 : Code := co 1 1 jdk_38_method_8_code
def k18m3 : Method := me "size" "()I" [] (some .int) 1 (some k18c3)
def k18c4 : Code := co 1 1 jdk_38_method_9_code
def k18m4 : Method := me "isEmpty" "()Z" [] (some .boolean) 1 (some k18c4)
def k18c5 : Code := co 2 1 jdk_38_method_16_code
def k18m5 : Method := me "toArray" "()[Ljava/lang/Object;" [] (some (.array (.object "java/lang/Object"))) 1 (some k18c5)
def k18c6 : Code := co 2 2 jdk_38_method_18_code
def k18m6 : Method := me "elementData" "(I)Ljava/lang/Object;" [.int] (some (.object "java/lang/Object")) 0 (some k18c6)
def k18c7 : Code := co 2 2 jdk_38_method_20_code
def k18m7 : Method := me "get" "(I)Ljava/lang/Object;" [.int] (some (.object "java/lang/Object")) 1 (some k18c7)
def k18c8 : Code := co 3 4 jdk_38_method_24_code
def k18m8 : Method := me "add" "(Ljava/lang/Object;[Ljava/lang/Object;I)V" [(.object "java/lang/Object"), (.array (.object "java/lang/Object")), .int] none 2 (some k18c8)
def k18c9 : Code := co 4 2 jdk_38_method_25_code
def k18m9 : Method := me "add" "(Ljava/lang/Object;)Z" [(.object "java/lang/Object")] (some .boolean) 1 (some k18c9)
/-- java/util/ArrayList -/
def k18 : Class := { plain "java/util/ArrayList" (some 15) with
  accessFlags := 33
  interfaces := #[14, 16, 17, 2]
  cf := some (fileOf pool18 10 #[.nestMembers #[290, 276, 500, 502, 262, 267]] #[mi 1 5 6, mi 2 71 72, mi 2 71 47, mi 1 50 186, mi 1 363 173, mi 1 46 47, mi 0 13 125, mi 1 381 125, mi 2 133 134, mi 1 133 96] 33 2 #[148, 329, 331, 333] #[fe 26 335 336, fe 26 340 51, fe 26 17 14, fe 26 41 14, fe 128 13 14, fe 2 50 51])
  fields := #[fi "serialVersionUID" .long 26 0 0, fi "DEFAULT_CAPACITY" .int 26 1 0, fi "EMPTY_ELEMENTDATA" (.array (.object "java/lang/Object")) 26 2 0, fi "DEFAULTCAPACITY_EMPTY_ELEMENTDATA" (.array (.object "java/lang/Object")) 26 3 0, fi "elementData" (.array (.object "java/lang/Object")) 128 1 0, fi "size" .int 2 2 0]
  methods := #[k18m0, k18m1, k18m2, k18m3, k18m4, k18m5, k18m6, k18m7, k18m8, k18m9]
  instanceTypes := #[.int, (.array (.object "java/lang/Object")), .int]
  staticTypes := #[.long, .int, (.array (.object "java/lang/Object")), (.array (.object "java/lang/Object"))]
  resolved := Array.replicate 509 none
  statics := some 1 }

def pool19 : Array CpInfo := pool [(15, .class_ 16), (0, u "java/util/ImmutableCollections$Set12"), (2, u "<init>"), (1, .methodref 15 22), (0, .nameAndType 19 23), (0, u "(Ljava/lang/Object;Ljava/lang/Object;)V"), (2, .class_ 27), (0, u "java/lang/Object"), (5, .class_ 34), (0, u "java/util/Set"), (1, .class_ 38), (1, u "java/util/Collection"), (4, u "of"), (15, u "contains"), (0, u "(Ljava/lang/Object;)Z"), (35, u "(Ljava/lang/Object;Ljava/lang/Object;)Ljava/util/Set;")] 47

def k19m0 : Method := me "contains" "(Ljava/lang/Object;)Z" [(.object "java/lang/Object")] (some .boolean) 1025 none
def k19c1 : Code := co 4 2 jdk_96_method_19_code
def k19m1 : Method := me "of" "(Ljava/lang/Object;Ljava/lang/Object;)Ljava/util/Set;" [(.object "java/lang/Object"), (.object "java/lang/Object")] (some (.object "java/util/Set")) 9 (some k19c1)
/-- java/util/Set -/
def k19 : Class := { plain "java/util/Set" (some 0) with
  accessFlags := 1537
  interfaces := #[11]
  cf := some (fileOf pool19 33 #[] #[mi 1025 59 60, mi 9 43 96] 1537 26 #[36] #[])
  fields := #[]
  methods := #[k19m0, k19m1]
  instanceTypes := #[]
  staticTypes := #[]
  resolved := Array.replicate 144 none
  statics := none }

def pool20 : Array CpInfo := pool [(1, .methodref 2 3), (0, .class_ 4), (0, .nameAndType 5 6), (0, u "java/util/AbstractCollection"), (0, u "<init>"), (0, u "()V"), (1, .class_ 10), (1, u "java/util/ImmutableCollections"), (2, .class_ 14), (0, u "java/util/ImmutableCollections$AbstractImmutableCollection")] 41

def k20c0 : Code := co 1 1 jdk_47_method_1_code
def k20m0 : Method := me "<init>" "()V" [] none 0 (some k20c0)
/-- java/util/ImmutableCollections$AbstractImmutableCollection -/
def k20 : Class := { plain "java/util/ImmutableCollections$AbstractImmutableCollection" (some 12) with
  accessFlags := 1056
  interfaces := #[]
  cf := some (fileOf pool20 13 #[.nestHost 8] #[mi 0 5 6] 1056 2 #[] #[])
  fields := #[]
  methods := #[k20m0]
  instanceTypes := #[]
  staticTypes := #[]
  resolved := Array.replicate 56 none
  statics := none }

def pool21 : Array CpInfo := pool [(1, .methodref 2 3), (0, .class_ 4), (0, .nameAndType 5 6), (0, u "java/util/ImmutableCollections$AbstractImmutableCollection"), (0, u "<init>"), (0, u "()V"), (0, .class_ 8), (0, u "java/util/Set"), (7, .class_ 17), (0, u "java/util/ImmutableCollections$AbstractImmutableSet"), (43, .class_ 62), (0, u "java/util/ImmutableCollections")] 3

def k21c0 : Code := co 1 1 jdk_100_method_1_code
def k21m0 : Method := me "<init>" "()V" [] none 0 (some k21c0)
/-- java/util/ImmutableCollections$AbstractImmutableSet -/
def k21 : Class := { plain "java/util/ImmutableCollections$AbstractImmutableSet" (some 20) with
  accessFlags := 1056
  interfaces := #[19]
  cf := some (fileOf pool21 16 #[.nestHost 61] #[mi 0 5 6] 1056 2 #[7] #[])
  fields := #[]
  methods := #[k21m0]
  instanceTypes := #[]
  staticTypes := #[]
  resolved := Array.replicate 66 none
  statics := none }

def pool22 : Array CpInfo := pool [(1, .methodref 2 3), (0, .class_ 4), (0, .nameAndType 5 6), (0, u "java/util/ImmutableCollections$AbstractImmutableSet"), (0, u "<init>"), (0, u "()V"), (0, .methodref 8 9), (0, .class_ 10), (0, .nameAndType 11 12), (0, u "java/util/Objects"), (0, u "requireNonNull"), (0, u "(Ljava/lang/Object;)Ljava/lang/Object;"), (0, .fieldref 14 15), (0, .class_ 16), (0, .nameAndType 17 18), (0, u "java/util/ImmutableCollections$Set12"), (0, u "e0"), (0, u "Ljava/lang/Object;"), (1, .class_ 22), (1, u "java/util/ImmutableCollections"), (1, .fieldref 14 25), (0, .nameAndType 26 18), (0, u "e1"), (0, .methodref 28 29), (0, .class_ 30), (0, .nameAndType 31 32), (0, u "java/lang/Object"), (0, u "equals"), (0, u "(Ljava/lang/Object;)Z"), (64, .class_ 98), (0, u "java/io/Serializable"), (13, u "(Ljava/lang/Object;Ljava/lang/Object;)V"), (4, u "contains")] 31

def k22c0 : Code := co 4 3 jdk_101_method_2_code
def k22m0 : Method := me "<init>" "(Ljava/lang/Object;Ljava/lang/Object;)V" [(.object "java/lang/Object"), (.object "java/lang/Object")] none 0 (some k22c0)
def k22c1 : Code := co 2 2 jdk_101_method_5_code
def k22m1 : Method := me "contains" "(Ljava/lang/Object;)Z" [(.object "java/lang/Object")] (some .boolean) 1 (some k22c1)
/-- java/util/ImmutableCollections$Set12 -/
def k22 : Class := { plain "java/util/ImmutableCollections$Set12" (some 21) with
  accessFlags := 48
  interfaces := #[2]
  cf := some (fileOf pool22 14 #[.nestHost 20] #[mi 0 5 112, mi 1 117 32] 48 2 #[97] #[fe 18 17 18, fe 18 26 18])
  fields := #[fi "e0" (.object "java/lang/Object") 18 0 0, fi "e1" (.object "java/lang/Object") 18 1 0]
  methods := #[k22m0, k22m1]
  instanceTypes := #[(.object "java/lang/Object"), (.object "java/lang/Object")]
  staticTypes := #[]
  resolved := Array.replicate 149 none
  statics := none }

def pool23 : Array CpInfo := pool [(2, .class_ 4), (1, u "java/lang/Object"), (0, u "<init>"), (0, u "()V"), (35, .class_ 44), (1, u "java/util/Objects"), (0, u "requireNonNull"), (0, u "(Ljava/lang/Object;)Ljava/lang/Object;"), (58, .methodref 106 107), (0, .class_ 108), (0, .nameAndType 109 110), (0, u "jdk/internal/util/Preconditions"), (0, u "checkIndex"), (0, u "(IILjava/util/function/BiFunction;)I"), (60, u "(II)I")] 12

def k23m0 : Method := me "<init>" "()V" [] none 2 none
def k23c1 : Code := co 2 1 jdk_31_method_10_code
def k23m1 : Method := me "requireNonNull" "(Ljava/lang/Object;)Ljava/lang/Object;" [(.object "java/lang/Object")] (some (.object "java/lang/Object")) 9 (some k23c1)
def k23c2 : Code := co 3 2 jdk_31_method_17_code
def k23m2 : Method := me "checkIndex" "(II)I" [.int, .int] (some .int) 9 (some k23c2)
/-- java/util/Objects -/
def k23 : Class := { plain "java/util/Objects" (some 0) with
  accessFlags := 49
  interfaces := #[]
  cf := some (fileOf pool23 42 #[] #[mi 2 5 6, mi 9 45 46, mi 9 109 171] 49 2 #[] #[])
  fields := #[]
  methods := #[k23m0, k23m1, k23m2]
  instanceTypes := #[]
  staticTypes := #[]
  resolved := Array.replicate 184 none
  statics := none }

def pool24 : Array CpInfo := pool [(1, .methodref 2 3), (0, .class_ 4), (0, .nameAndType 5 6), (0, u "java/lang/Object"), (0, u "<init>"), (0, u "()V"), (0, .class_ 8), (0, u "java/util/ArrayList"), (0, .methodref 7 3), (0, .fieldref 11 12), (0, .class_ 13), (0, .nameAndType 14 15), (0, u "com/example/hand_balancer/handbalancer/cli/Arguments"), (0, u "operands"), (0, u "Ljava/util/List;"), (0, .class_ 17), (0, u "java/util/HashMap"), (0, .methodref 16 3), (0, .fieldref 11 20), (0, .nameAndType 21 22), (0, u "options"), (0, u "Ljava/util/Map;"), (0, .methodref 11 3), (0, .interfaceMethodref 25 26), (0, .class_ 27), (0, .nameAndType 28 29), (0, u "java/util/List"), (0, u "size"), (0, u "()I"), (0, .interfaceMethodref 25 31), (0, .nameAndType 32 33), (0, u "get"), (0, u "(I)Ljava/lang/Object;"), (0, .class_ 35), (0, u "java/lang/String"), (0, .string 37), (0, u "--"), (0, .methodref 34 39), (0, .nameAndType 40 41), (0, u "startsWith"), (0, u "(Ljava/lang/String;)Z"), (0, .interfaceMethodref 25 43), (0, .nameAndType 44 45), (0, u "add"), (0, u "(Ljava/lang/Object;)Z"), (0, .methodref 34 47), (0, .nameAndType 48 49), (0, u "indexOf"), (0, u "(I)I"), (0, .methodref 34 51), (0, .nameAndType 52 29), (0, u "length"), (0, .methodref 34 54), (0, .nameAndType 55 56), (0, u "substring"), (0, u "(II)Ljava/lang/String;"), (0, .interfaceMethodref 58 59), (0, .class_ 60), (0, .nameAndType 61 45), (0, u "java/util/Set"), (0, u "contains"), (11, .methodref 34 74), (0, .nameAndType 55 75), (0, u "(I)Ljava/lang/String;"), (0, .interfaceMethodref 77 78), (0, .class_ 79), (0, .nameAndType 80 81), (0, u "java/util/Map"), (0, u "put"), (0, u "(Ljava/lang/Object;Ljava/lang/Object;)Ljava/lang/Object;"), (4, .interfaceMethodref 25 87), (0, .nameAndType 88 89), (0, u "copyOf"), (0, u "(Ljava/util/Collection;)Ljava/util/List;"), (1, .nameAndType 92 93), (0, u "isEmpty"), (0, u "()Z"), (1, .interfaceMethodref 77 96), (0, .nameAndType 32 97), (0, u "(Ljava/lang/Object;)Ljava/lang/Object;"), (0, .methodref 99 100), (0, .class_ 101), (0, .nameAndType 102 103), (0, u "java/util/Optional"), (0, u "ofNullable"), (0, u "(Ljava/lang/Object;)Ljava/util/Optional;"), (0, .methodref 11 105), (0, .nameAndType 106 107), (0, u "option"), (0, u "(Ljava/lang/String;)Ljava/util/Optional;"), (0, .methodref 99 91), (2, u "()Ljava/lang/Object;"), (20, .invokeDynamic 6 133), (0, .nameAndType 32 134), (0, u "(Ljava/lang/String;Ljava/lang/String;)Ljava/util/function/Supplier;"), (0, .methodref 99 136), (0, .nameAndType 137 138), (0, u "orElseThrow"), (0, u "(Ljava/util/function/Supplier;)Ljava/lang/Object;"), (2, u "(Ljava/lang/String;Ljava/lang/String;)Ljava/lang/String;"), (5, u "parse"), (0, u "(Ljava/util/List;Ljava/util/Set;)Lcom/example/hand_balancer/handbalancer/cli/Arguments;"), (2, u "(ILjava/lang/String;)Ljava/util/List;"), (3, u "milliseconds"), (0, u "(Ljava/lang/String;Ljava/time/Duration;J)Ljava/time/Duration;"), (0, u "required"), (0, u "lambda$required$0"), (0, u "(Ljava/lang/String;Ljava/lang/String;)Lcom/example/hand_balancer/handbalancer/cli/InvalidInputException;"), (15, .methodType 111), (0, .methodHandle 6 177), (0, .methodref 11 178), (0, .nameAndType 158 159), (0, .methodType 180), (0, u "()Lcom/example/hand_balancer/handbalancer/cli/InvalidInputException;"), (8, .methodHandle 6 190), (0, .methodref 191 192), (0, .class_ 193), (0, .nameAndType 194 195), (0, u "java/lang/invoke/LambdaMetafactory"), (0, u "metafactory"), (0, u "(Ljava/lang/invoke/MethodHandles$Lookup;Ljava/lang/String;Ljava/lang/invoke/MethodType;Ljava/lang/invoke/MethodType;Ljava/lang/invoke/MethodHandle;Ljava/lang/invoke/MethodType;)Ljava/lang/invoke/CallSite;")] 6

def k24c0 : Code := co 3 1 prog_1_method_1_code
def k24m0 : Method := me "<init>" "()V" [] none 2 (some k24c0)
def k24c1 : Code := co 3 8 prog_1_method_2_code
def k24m1 : Method := me "parse" "(Ljava/util/List;Ljava/util/Set;)Lcom/example/hand_balancer/handbalancer/cli/Arguments;" [(.object "java/util/List"), (.object "java/util/Set")] (some (.object "com/example/hand_balancer/handbalancer/cli/Arguments")) 8 (some k24c1)
def k24c2 : Code := co 2 3 prog_1_method_3_code
def k24m2 : Method := me "operands" "(ILjava/lang/String;)Ljava/util/List;" [.int, (.object "java/lang/String")] (some (.object "java/util/List")) 0 (some k24c2)
def k24c3 : Code := co 2 2 prog_1_method_5_code
def k24m3 : Method := me "option" "(Ljava/lang/String;)Ljava/util/Optional;" [(.object "java/lang/String")] (some (.object "java/util/Optional")) 0 (some k24c3)
def k24c4 : Code := co 4 7 prog_1_method_6_code
def k24m4 : Method := me "milliseconds" "(Ljava/lang/String;Ljava/time/Duration;J)Ljava/time/Duration;" [(.object "java/lang/String"), (.object "java/time/Duration"), .long] (some (.object "java/time/Duration")) 0 (some k24c4)
def k24c5 : Code := co 3 3 prog_1_method_7_code
def k24m5 : Method := me "required" "(Ljava/lang/String;Ljava/lang/String;)Ljava/lang/String;" [(.object "java/lang/String"), (.object "java/lang/String")] (some (.object "java/lang/String")) 0 (some k24c5)
def k24c6 : Code := co 2 2 ⟨#[0x2a, 0x2b, 0xba, 0x00, 0x8b, 0x00, 0x00, 0xb8, 0x00, 0x42, 0xb0]⟩
def k24m6 : Method := me "lambda$required$0" "(Ljava/lang/String;Ljava/lang/String;)Lcom/example/hand_balancer/handbalancer/cli/InvalidInputException;" [(.object "java/lang/String"), (.object "java/lang/String")] (some (.object "com/example/hand_balancer/handbalancer/cli/InvalidInputException")) 4106 (some k24c6)
/-- com/example/hand_balancer/handbalancer/cli/Arguments -/
def k24 : Class := { plain "com/example/hand_balancer/handbalancer/cli/Arguments" (some 0) with
  accessFlags := 48
  interfaces := #[]
  cf := some (fileOf pool24 11 #[.bootstrapMethods #[⟨0, #[]⟩, ⟨0, #[]⟩, ⟨0, #[]⟩, ⟨0, #[]⟩, ⟨0, #[]⟩, ⟨0, #[]⟩, ⟨189, #[175, 176, 179]⟩, ⟨0, #[]⟩]] #[mi 2 5 6, mi 8 147 148, mi 0 14 151, mi 0 106 107, mi 0 155 156, mi 0 157 141, mi 4106 158 159] 48 2 #[] #[fe 18 14 15, fe 18 21 22])
  fields := #[fi "operands" (.object "java/util/List") 18 0 0, fi "options" (.object "java/util/Map") 18 1 0]
  methods := #[k24m0, k24m1, k24m2, k24m3, k24m4, k24m5, k24m6]
  instanceTypes := #[(.object "java/util/List"), (.object "java/util/Map")]
  staticTypes := #[]
  resolved := Array.replicate 202 none
  callSites := [(5, 7, .makes 51)]
  statics := none }

def pool25 : Array CpInfo := pool [(2, .class_ 4), (1, u "java/util/Map"), (0, u "get"), (0, u "(Ljava/lang/Object;)Ljava/lang/Object;"), (29, .class_ 37), (0, u "java/util/Map$Entry"), (25, u "(Ljava/lang/Object;Ljava/lang/Object;)Ljava/lang/Object;"), (5, u "put"), (23, .class_ 94), (0, u "java/lang/Object")] 168

def k25m0 : Method := me "get" "(Ljava/lang/Object;)Ljava/lang/Object;" [(.object "java/lang/Object")] (some (.object "java/lang/Object")) 1025 none
def k25m1 : Method := me "put" "(Ljava/lang/Object;Ljava/lang/Object;)Ljava/lang/Object;" [(.object "java/lang/Object"), (.object "java/lang/Object")] (some (.object "java/lang/Object")) 1025 none
/-- java/util/Map -/
def k25 : Class := { plain "java/util/Map" (some 0) with
  accessFlags := 1537
  interfaces := #[]
  cf := some (fileOf pool25 2 #[.nestMembers #[36]] #[mi 1025 5 6, mi 1025 69 63] 1537 93 #[] #[])
  fields := #[]
  methods := #[k25m0, k25m1]
  instanceTypes := #[]
  staticTypes := #[]
  resolved := Array.replicate 263 none
  statics := none }

def pool26 : Array CpInfo := pool [(1, .methodref 2 3), (0, .class_ 4), (0, .nameAndType 5 6), (0, u "java/lang/Object"), (0, u "<init>"), (0, u "()V"), (1, .class_ 10), (1, u "java/util/AbstractMap"), (42, .class_ 54), (0, u "java/util/Map"), (9, u "keySet"), (0, u "Ljava/util/Set;"), (0, .class_ 67), (0, u "java/util/AbstractMap$1"), (5, u "values"), (0, u "Ljava/util/Collection;"), (0, .class_ 76), (0, u "java/util/AbstractMap$2"), (104, .class_ 182), (0, u "java/util/AbstractMap$ViewCollection"), (0, .class_ 184), (0, u "java/util/AbstractMap$SimpleImmutableEntry"), (0, .class_ 186), (0, u "java/util/AbstractMap$SimpleEntry"), (0, .class_ 188), (0, u "java/util/AbstractMap$2$1"), (0, .class_ 190), (0, u "java/util/AbstractMap$1$1")] 5

def k26c0 : Code := co 1 1 jdk_71_method_1_code
def k26m0 : Method := me "<init>" "()V" [] none 4 (some k26c0)
/-- java/util/AbstractMap -/
def k26 : Class := { plain "java/util/AbstractMap" (some 0) with
  accessFlags := 1057
  interfaces := #[25]
  cf := some (fileOf pool26 8 #[.nestMembers #[181, 183, 185, 75, 187, 66, 189]] #[mi 4 5 6] 1057 2 #[53] #[fe 128 64 65, fe 128 73 74])
  fields := #[fi "keySet" (.object "java/util/Set") 128 0 0, fi "values" (.object "java/util/Collection") 128 1 0]
  methods := #[k26m0]
  instanceTypes := #[(.object "java/util/Set"), (.object "java/util/Collection")]
  staticTypes := #[]
  resolved := Array.replicate 196 none
  statics := none }

def pool27 : Array CpInfo := pool [(1, .methodref 2 3), (0, .class_ 4), (0, .nameAndType 5 6), (0, u "java/lang/Object"), (0, u "hashCode"), (0, u "()I"), (26, u "(Ljava/lang/Object;)I"), (6, .class_ 41), (0, u "java/util/HashMap"), (1, .methodref 44 45), (0, .class_ 46), (0, .nameAndType 47 48), (0, u "java/util/AbstractMap"), (0, u "<init>"), (0, u "()V"), (32, .fieldref 40 82), (0, .nameAndType 83 84), (0, u "loadFactor"), (0, u "F"), (3, .fieldref 40 89), (0, .nameAndType 90 91), (0, u "threshold"), (0, u "I"), (0, .float 1061158912), (8, .class_ 103), (1, u "java/util/Map"), (0, u "size"), (0, .fieldref 40 106), (0, .nameAndType 107 108), (0, u "table"), (0, u "[Ljava/util/HashMap$Node;"), (8, .methodref 40 118), (0, .nameAndType 119 120), (0, u "resize"), (0, u "()[Ljava/util/HashMap$Node;"), (2, u "entrySet"), (25, .methodref 40 150), (0, .nameAndType 151 33), (0, u "hash"), (0, .methodref 40 153), (0, .nameAndType 154 155), (0, u "putVal"), (0, u "(ILjava/lang/Object;Ljava/lang/Object;ZZ)Ljava/lang/Object;"), (0, .fieldref 40 157), (0, .nameAndType 104 91), (0, .methodref 40 159), (0, .nameAndType 160 161), (0, u "getNode"), (0, u "(Ljava/lang/Object;)Ljava/util/HashMap$Node;"), (0, .fieldref 163 164), (0, .class_ 165), (0, .nameAndType 166 167), (0, u "java/util/HashMap$Node"), (0, u "value"), (0, u "Ljava/lang/Object;"), (0, .fieldref 163 169), (0, .nameAndType 151 91), (0, .fieldref 163 171), (0, .nameAndType 172 167), (0, u "key"), (0, .methodref 2 174), (0, .nameAndType 175 176), (0, u "equals"), (0, u "(Ljava/lang/Object;)Z"), (3, .class_ 181), (0, u "java/util/HashMap$TreeNode"), (4, .methodref 40 187), (0, .nameAndType 188 189), (0, u "newNode"), (0, u "(ILjava/lang/Object;Ljava/lang/Object;Ljava/util/HashMap$Node;)Ljava/util/HashMap$Node;"), (12, .fieldref 40 203), (0, .nameAndType 204 91), (0, u "modCount"), (0, .methodref 40 206), (0, .nameAndType 207 208), (0, u "afterNodeInsertion"), (0, u "(Z)V"), (33, u "Ljava/util/Set;"), (0, .class_ 244), (0, u "java/util/HashMap$KeySet"), (18, .class_ 264), (0, u "java/util/HashMap$Values"), (3, .class_ 269), (0, u "java/util/HashMap$EntrySet"), (9, u "(Ljava/lang/Object;)Ljava/lang/Object;"), (7, u "(Ljava/lang/Object;Ljava/lang/Object;)Ljava/lang/Object;"), (46, u "get"), (11, .class_ 348), (1, u "java/util/HashMap$UnsafeHolder"), (26, .methodref 163 376), (0, .nameAndType 47 377), (0, u "(ILjava/lang/Object;Ljava/lang/Object;Ljava/util/HashMap$Node;)V"), (14, .class_ 393), (0, u "java/lang/Cloneable"), (0, .class_ 395), (0, u "java/io/Serializable"), (0, u "serialVersionUID"), (0, u "J"), (3, u "DEFAULT_INITIAL_CAPACITY"), (1, u "MAXIMUM_CAPACITY"), (0, u "DEFAULT_LOAD_FACTOR"), (0, u "TREEIFY_THRESHOLD"), (1, u "UNTREEIFY_THRESHOLD"), (1, u "MIN_TREEIFY_CAPACITY"), (60, u "put"), (125, .class_ 597), (0, u "java/util/HashMap$EntrySpliterator"), (0, .class_ 599), (0, u "java/util/HashMap$ValueSpliterator"), (0, .class_ 601), (0, u "java/util/HashMap$KeySpliterator"), (0, .class_ 603), (0, u "java/util/HashMap$HashMapSpliterator"), (0, .class_ 605), (0, u "java/util/HashMap$EntryIterator"), (0, .class_ 607), (0, u "java/util/HashMap$ValueIterator"), (0, .class_ 609), (0, u "java/util/HashMap$KeyIterator"), (0, .class_ 611), (0, u "java/util/HashMap$HashIterator")] 17

def k27c0 : Code := co 3 2 jdk_69_method_1_code
def k27m0 : Method := me "hash" "(Ljava/lang/Object;)I" [(.object "java/lang/Object")] (some .int) 24 (some k27c0)
def k27c1 : Code := co 2 1 jdk_69_method_7_code
def k27m1 : Method := me "<init>" "()V" [] none 1 (some k27c1)
def k27c2 : Code := co 2 3 jdk_69_method_12_code
def k27m2 : Method := me "get" "(Ljava/lang/Object;)Ljava/lang/Object;" [(.object "java/lang/Object")] (some (.object "java/lang/Object")) 1 (some k27c2)
def k27c3 : Code := co 4 8 jdk_69_method_13_code
def k27m3 : Method := me "getNode" "(Ljava/lang/Object;)Ljava/util/HashMap$Node;" [(.object "java/lang/Object")] (some (.object "java/util/HashMap$Node")) 16 (some k27c3)
def k27c4 : Code := co 6 3 jdk_69_method_15_code
def k27m4 : Method := me "put" "(Ljava/lang/Object;Ljava/lang/Object;)Ljava/lang/Object;" [(.object "java/lang/Object"), (.object "java/lang/Object")] (some (.object "java/lang/Object")) 1 (some k27c4)
def k27c5 : Code := co 7 13 jdk_69_method_16_code
def k27m5 : Method := me "putVal" "(ILjava/lang/Object;Ljava/lang/Object;ZZ)Ljava/lang/Object;" [.int, (.object "java/lang/Object"), (.object "java/lang/Object"), .boolean, .boolean] (some (.object "java/lang/Object")) 16 (some k27c5)
def k27c6 : Code := co 5 14 jdk_69_method_17_code
def k27m6 : Method := me "resize" "()[Ljava/util/HashMap$Node;" [] (some (.array (.object "java/util/HashMap$Node"))) 16 (some k27c6)
def k27c7 : Code := co 6 5 jdk_69_method_46_code
def k27m7 : Method := me "newNode" "(ILjava/lang/Object;Ljava/lang/Object;Ljava/util/HashMap$Node;)Ljava/util/HashMap$Node;" [.int, (.object "java/lang/Object"), (.object "java/lang/Object"), (.object "java/util/HashMap$Node")] (some (.object "java/util/HashMap$Node")) 0 (some k27c7)
def k27c8 : Code := co 0 2 jdk_69_method_52_code
def k27m8 : Method := me "afterNodeInsertion" "(Z)V" [.boolean] none 0 (some k27c8)
/-- java/util/HashMap -/
def k27 : Class := { plain "java/util/HashMap" (some 26) with
  accessFlags := 33
  interfaces := #[25, 17, 2]
  cf := some (fileOf pool27 40 #[.nestMembers #[180, 596, 598, 600, 602, 604, 606, 608, 610, 346, 268, 263, 243, 163]] #[mi 24 151 33, mi 1 47 48, mi 1 334 279, mi 16 160 161, mi 1 470 287, mi 16 154 155, mi 16 119 120, mi 0 188 189, mi 0 207 208] 33 44 #[101, 392, 394] #[fe 26 396 397, fe 24 401 91, fe 24 403 91, fe 24 404 84, fe 24 405 91, fe 24 407 91, fe 24 409 91, fe 128 107 108, fe 128 123 242, fe 128 104 91, fe 128 204 91, fe 0 90 91, fe 16 83 84])
  fields := #[fi "serialVersionUID" .long 26 0 0, fi "DEFAULT_INITIAL_CAPACITY" .int 24 1 0, fi "MAXIMUM_CAPACITY" .int 24 2 0, fi "DEFAULT_LOAD_FACTOR" .float 24 3 0, fi "TREEIFY_THRESHOLD" .int 24 4 0, fi "UNTREEIFY_THRESHOLD" .int 24 5 0, fi "MIN_TREEIFY_CAPACITY" .int 24 6 0, fi "table" (.array (.object "java/util/HashMap$Node")) 128 2 0, fi "entrySet" (.object "java/util/Set") 128 3 0, fi "size" .int 128 4 0, fi "modCount" .int 128 5 0, fi "threshold" .int 0 6 0, fi "loadFactor" .float 16 7 0]
  methods := #[k27m0, k27m1, k27m2, k27m3, k27m4, k27m5, k27m6, k27m7, k27m8]
  instanceTypes := #[(.object "java/util/Set"), (.object "java/util/Collection"), (.array (.object "java/util/HashMap$Node")), (.object "java/util/Set"), .int, .int, .int, .float]
  staticTypes := #[.long, .int, .int, .float, .int, .int, .int]
  resolved := Array.replicate 629 none
  statics := none }

def pool28 : Array CpInfo := pool [(2, .class_ 4), (1, u "java/lang/Object"), (0, u "<init>"), (0, u "()V"), (3, .class_ 11), (0, u "java/util/ImmutableCollections$List12"), (0, .class_ 13), (0, u "java/util/ImmutableCollections$ListN"), (3, u "Z"), (0, .class_ 19), (0, u "java/util/List"), (0, .interfaceMethodref 21 22), (0, .class_ 23), (0, .nameAndType 24 25), (0, u "java/util/Collection"), (0, u "isEmpty"), (0, u "()Z"), (0, .interfaceMethodref 18 27), (0, .nameAndType 28 29), (0, u "of"), (0, u "()Ljava/util/List;"), (0, .interfaceMethodref 21 31), (0, .nameAndType 32 33), (0, u "toArray"), (0, u "()[Ljava/lang/Object;"), (0, .interfaceMethodref 18 35), (0, .nameAndType 28 36), (0, u "([Ljava/lang/Object;)Ljava/util/List;"), (0, .methodref 38 39), (0, .class_ 40), (0, .nameAndType 41 42), (0, u "java/util/Objects"), (0, u "requireNonNull"), (0, u "(Ljava/lang/Object;)Ljava/lang/Object;"), (0, .methodref 12 44), (0, .nameAndType 5 45), (0, u "([Ljava/lang/Object;Z)V"), (1, .class_ 49), (1, u "java/util/ImmutableCollections"), (0, u "$assertionsDisabled"), (5, u "[Ljava/lang/Object;"), (5, u "EMPTY_LIST"), (0, u "Ljava/util/ImmutableCollections$ListN;"), (8, u "EMPTY_LIST_NULLS"), (22, u "SALT32L"), (0, u "J"), (2, u "REVERSE"), (6, u "archivedObjects"), (2, u "EMPTY"), (0, u "Ljava/lang/Object;"), (0, .class_ 112), (0, u "java/util/ImmutableCollections$SetN"), (5, u "EMPTY_SET"), (0, u "Ljava/util/ImmutableCollections$SetN;"), (0, .class_ 121), (0, u "java/util/ImmutableCollections$MapN"), (3, u "EMPTY_MAP"), (0, u "Ljava/util/ImmutableCollections$MapN;"), (4, u "EXPAND_FACTOR"), (0, u "I"), (9, u "listCopy"), (0, u "(Ljava/util/Collection;)Ljava/util/List;"), (7, u "listFromArray"), (17, .class_ 170), (0, u "java/util/ImmutableCollections$MapN$MapNIterator"), (0, .class_ 172), (0, u "java/util/ImmutableCollections$MapN$1"), (0, .class_ 174), (0, u "java/util/ImmutableCollections$Map1"), (0, .class_ 176), (0, u "java/util/ImmutableCollections$AbstractImmutableMap"), (0, .class_ 178), (0, u "java/util/ImmutableCollections$SetN$SetNIterator"), (0, .class_ 180), (0, u "java/util/ImmutableCollections$Set12"), (0, .class_ 182), (0, u "java/util/ImmutableCollections$Set12$1"), (0, .class_ 184), (0, u "java/util/ImmutableCollections$AbstractImmutableSet"), (0, .class_ 186), (0, u "java/util/ImmutableCollections$SubList"), (0, .class_ 188), (0, u "java/util/ImmutableCollections$ListItr"), (0, .class_ 190), (0, u "java/util/ImmutableCollections$AbstractImmutableList"), (0, .class_ 192), (0, u "java/util/ImmutableCollections$AbstractImmutableCollection"), (0, .class_ 194), (0, u "java/util/ImmutableCollections$Access"), (0, .class_ 196), (0, u "java/util/ImmutableCollections$Access$1")] 16

def k28m0 : Method := me "<init>" "()V" [] none 2 none
def k28c1 : Code := co 1 2 jdk_56_method_3_code
def k28m1 : Method := me "listCopy" "(Ljava/util/Collection;)Ljava/util/List;" [(.object "java/util/Collection")] (some (.object "java/util/List")) 8 (some k28c1)
def k28c2 : Code := co 4 3 jdk_56_method_4_code
def k28m2 : Method := me "listFromArray" "([Ljava/lang/Object;)Ljava/util/List;" [(.array (.object "java/lang/Object"))] (some (.object "java/util/List")) 136 (some k28c2)
/-- java/util/ImmutableCollections -/
def k28 : Class := { plain "java/util/ImmutableCollections" (some 0) with
  accessFlags := 32
  interfaces := #[]
  cf := some (fileOf pool28 47 #[.nestMembers #[120, 169, 171, 173, 175, 111, 177, 179, 181, 183, 12, 10, 185, 187, 189, 191, 193, 195]] #[mi 2 5 6, mi 8 142 143, mi 136 151 36] 32 2 #[] #[fe 26 95 96, fe 26 99 17, fe 10 106 56, fe 26 109 110, fe 24 62 63, fe 24 72 63, fe 24 118 119, fe 24 125 126, fe 24 131 132, fe 4120 50 17])
  fields := #[fi "SALT32L" .long 26 0 0, fi "REVERSE" .boolean 26 1 0, fi "archivedObjects" (.array (.object "java/lang/Object")) 10 2 0, fi "EMPTY" (.object "java/lang/Object") 26 3 0, fi "EMPTY_LIST" (.object "java/util/ImmutableCollections$ListN") 24 4 0, fi "EMPTY_LIST_NULLS" (.object "java/util/ImmutableCollections$ListN") 24 5 0, fi "EMPTY_SET" (.object "java/util/ImmutableCollections$SetN") 24 6 0, fi "EMPTY_MAP" (.object "java/util/ImmutableCollections$MapN") 24 7 0, fi "EXPAND_FACTOR" .int 24 8 0, fi "$assertionsDisabled" .boolean 4120 9 0]
  methods := #[k28m0, k28m1, k28m2]
  instanceTypes := #[]
  staticTypes := #[.long, .boolean, (.array (.object "java/lang/Object")), (.object "java/lang/Object"), (.object "java/util/ImmutableCollections$ListN"), (.object "java/util/ImmutableCollections$ListN"), (.object "java/util/ImmutableCollections$SetN"), (.object "java/util/ImmutableCollections$MapN"), .int, .boolean]
  resolved := Array.replicate 213 none
  statics := some 2 }

def pool29 : Array CpInfo := pool [(1, .methodref 2 3), (0, .class_ 4), (0, .nameAndType 5 6), (0, u "java/util/ImmutableCollections$AbstractImmutableCollection"), (0, u "<init>"), (0, u "()V"), (1, .class_ 10), (1, u "java/util/ImmutableCollections"), (3, .class_ 16), (1, u "java/util/ImmutableCollections$AbstractImmutableList"), (60, .class_ 78), (0, u "java/util/List"), (45, .class_ 125), (0, u "java/util/RandomAccess")] 70

def k29c0 : Code := co 1 1 jdk_46_method_1_code
def k29m0 : Method := me "<init>" "()V" [] none 0 (some k29c0)
/-- java/util/ImmutableCollections$AbstractImmutableList -/
def k29 : Class := { plain "java/util/ImmutableCollections$AbstractImmutableList" (some 20) with
  accessFlags := 1056
  interfaces := #[14, 16]
  cf := some (fileOf pool29 14 #[.nestHost 8] #[mi 0 5 6] 1056 2 #[77, 124] #[])
  fields := #[]
  methods := #[k29m0]
  instanceTypes := #[]
  staticTypes := #[]
  resolved := Array.replicate 196 none
  statics := none }

def pool30 : Array CpInfo := pool [(1, .methodref 2 3), (0, .class_ 4), (0, .nameAndType 5 6), (0, u "java/util/ImmutableCollections$AbstractImmutableList"), (0, u "<init>"), (0, u "()V"), (0, .methodref 8 9), (0, .class_ 10), (0, .nameAndType 11 12), (0, u "java/util/Objects"), (0, u "requireNonNull"), (0, u "(Ljava/lang/Object;)Ljava/lang/Object;"), (0, .fieldref 14 15), (0, .class_ 16), (0, .nameAndType 17 18), (0, u "java/util/ImmutableCollections$List12"), (0, u "e0"), (0, u "Ljava/lang/Object;"), (0, .fieldref 20 21), (0, .class_ 22), (0, .nameAndType 23 18), (0, u "java/util/ImmutableCollections"), (0, u "EMPTY"), (0, .fieldref 14 25), (0, .nameAndType 26 18), (0, u "e1"), (24, u "size"), (0, u "()I"), (17, .class_ 71), (0, u "java/io/Serializable"), (4, u "(Ljava/lang/Object;)V"), (8, u "(Ljava/lang/Object;Ljava/lang/Object;)V"), (4, u "get"), (0, u "(I)Ljava/lang/Object;")] 33

def k30c0 : Code := co 2 2 jdk_44_method_1_code
def k30m0 : Method := me "<init>" "(Ljava/lang/Object;)V" [(.object "java/lang/Object")] none 0 (some k30c0)
def k30c1 : Code := co 2 3 jdk_44_method_2_code
def k30m1 : Method := me "<init>" "(Ljava/lang/Object;Ljava/lang/Object;)V" [(.object "java/lang/Object"), (.object "java/lang/Object")] none 0 (some k30c1)
def k30c2 : Code := co 2 1 jdk_44_method_3_code
def k30m2 : Method := me "size" "()I" [] (some .int) 1 (some k30c2)
def k30c3 : Code := co 2 2 jdk_44_method_5_code
def k30m3 : Method := me "get" "(I)Ljava/lang/Object;" [.int] (some (.object "java/lang/Object")) 1 (some k30c3)
/-- java/util/ImmutableCollections$List12 -/
def k30 : Class := { plain "java/util/ImmutableCollections$List12" (some 29) with
  accessFlags := 48
  interfaces := #[2]
  cf := some (fileOf pool30 14 #[.nestHost 20] #[mi 0 5 76, mi 0 5 85, mi 1 51 52, mi 1 90 91] 48 2 #[70] #[fe 18 17 18, fe 18 26 18])
  fields := #[fi "e0" (.object "java/lang/Object") 18 0 0, fi "e1" (.object "java/lang/Object") 18 1 0]
  methods := #[k30m0, k30m1, k30m2, k30m3]
  instanceTypes := #[(.object "java/lang/Object"), (.object "java/lang/Object")]
  staticTypes := #[]
  resolved := Array.replicate 125 none
  statics := none }

def pool31 : Array CpInfo := pool [(1, .methodref 2 3), (0, .class_ 4), (0, .nameAndType 5 6), (0, u "java/util/ImmutableCollections$AbstractImmutableList"), (0, u "<init>"), (0, u "()V"), (0, .fieldref 8 9), (0, .class_ 10), (0, .nameAndType 11 12), (0, u "java/util/ImmutableCollections$ListN"), (0, u "elements"), (0, u "[Ljava/lang/Object;"), (0, .fieldref 8 14), (0, .nameAndType 15 16), (0, u "allowNulls"), (0, u "Z"), (42, .class_ 60), (0, u "java/io/Serializable"), (4, u "([Ljava/lang/Object;Z)V"), (11, u "size"), (0, u "()I"), (0, u "get"), (0, u "(I)Ljava/lang/Object;"), (33, .class_ 115), (0, u "java/util/ImmutableCollections")] 3

def k31c0 : Code := co 2 3 jdk_45_method_1_code
def k31m0 : Method := me "<init>" "([Ljava/lang/Object;Z)V" [(.array (.object "java/lang/Object")), .boolean] none 2 (some k31c0)
def k31c1 : Code := co 1 1 jdk_45_method_3_code
def k31m1 : Method := me "size" "()I" [] (some .int) 1 (some k31c1)
def k31c2 : Code := co 2 2 jdk_45_method_4_code
def k31m2 : Method := me "get" "(I)Ljava/lang/Object;" [.int] (some (.object "java/lang/Object")) 1 (some k31c2)
/-- java/util/ImmutableCollections$ListN -/
def k31 : Class := { plain "java/util/ImmutableCollections$ListN" (some 29) with
  accessFlags := 48
  interfaces := #[2]
  cf := some (fileOf pool31 8 #[.nestHost 114] #[mi 2 5 65, mi 1 77 78, mi 1 79 80] 48 2 #[59] #[fe 18 11 12, fe 18 15 16])
  fields := #[fi "elements" (.array (.object "java/lang/Object")) 18 0 0, fi "allowNulls" .boolean 18 1 0]
  methods := #[k31m0, k31m1, k31m2]
  instanceTypes := #[(.array (.object "java/lang/Object")), .boolean]
  staticTypes := #[]
  resolved := Array.replicate 119 none
  statics := none }

def pool32 : Array CpInfo := pool [(1, .fieldref 2 3), (0, .class_ 4), (0, .nameAndType 5 6), (0, u "java/util/Optional"), (0, u "EMPTY"), (0, u "Ljava/util/Optional;"), (0, .methodref 8 9), (0, .class_ 10), (0, .nameAndType 11 12), (0, u "java/lang/Object"), (0, u "<init>"), (0, u "()V"), (0, .fieldref 2 14), (0, .nameAndType 15 16), (0, u "value"), (0, u "Ljava/lang/Object;"), (6, .methodref 2 24), (0, .nameAndType 11 25), (0, u "(Ljava/lang/Object;)V"), (19, u "isEmpty"), (0, u "()Z"), (17, u "ofNullable"), (0, u "(Ljava/lang/Object;)Ljava/util/Optional;"), (103, u "(Ljava/util/function/Supplier;)Ljava/lang/Object;"), (2, u "orElseThrow")] 14

def k32c0 : Code := co 2 2 jdk_32_method_2_code
def k32m0 : Method := me "<init>" "(Ljava/lang/Object;)V" [(.object "java/lang/Object")] none 2 (some k32c0)
def k32c1 : Code := co 3 1 jdk_32_method_4_code
def k32m1 : Method := me "ofNullable" "(Ljava/lang/Object;)Ljava/util/Optional;" [(.object "java/lang/Object")] (some (.object "java/util/Optional")) 9 (some k32c1)
def k32c2 : Code := co 1 1 jdk_32_method_7_code
def k32m2 : Method := me "isEmpty" "()Z" [] (some .boolean) 1 (some k32c2)
def k32c3 : Code := co 1 2 jdk_32_method_18_code
def k32m3 : Method := me "orElseThrow" "(Ljava/util/function/Supplier;)Ljava/lang/Object;" [(.object "java/util/function/Supplier")] (some (.object "java/lang/Object")) 1 (some k32c3)
/-- java/util/Optional -/
def k32 : Class := { plain "java/util/Optional" (some 0) with
  accessFlags := 49
  interfaces := #[]
  cf := some (fileOf pool32 2 #[] #[mi 2 11 25, mi 9 64 65, mi 1 45 46, mi 1 172 169] 49 8 #[] #[fe 26 5 6, fe 18 15 16])
  fields := #[fi "EMPTY" (.object "java/util/Optional") 26 0 0, fi "value" (.object "java/lang/Object") 18 0 0]
  methods := #[k32m0, k32m1, k32m2, k32m3]
  instanceTypes := #[(.object "java/lang/Object")]
  staticTypes := #[(.object "java/util/Optional")]
  resolved := Array.replicate 187 none
  statics := some 3 }

def pool33 : Array CpInfo := pool [(1, .class_ 2), (0, u "java/lang/Math"), (1, .class_ 6), (1, u "java/lang/Object"), (0, u "<init>"), (0, u "()V"), (89, .class_ 100), (1, u "java/lang/Math$RandomNumberGeneratorHolder"), (71, u "negativeZeroFloatBits"), (0, u "J"), (2, u "negativeZeroDoubleBits"), (21, u "max"), (2, u "min"), (43, u "$assertionsDisabled"), (0, u "Z"), (88, u "(II)I"), (2, u "twoToTheDoubleScaleDown"), (0, u "D"), (4, u "twoToTheDoubleScaleUp"), (9, u "E"), (3, u "PI"), (2, u "TAU"), (2, u "DEGREES_TO_RADIANS"), (0, u "RADIANS_TO_DEGREES")] 94

def k33m0 : Method := me "<init>" "()V" [] none 2 none
def k33c1 : Code := co 2 2 jdk_29_method_65_code
def k33m1 : Method := me "max" "(II)I" [.int, .int] (some .int) 9 (some k33c1)
def k33c2 : Code := co 2 2 jdk_29_method_69_code
def k33m2 : Method := me "min" "(II)I" [.int, .int] (some .int) 9 (some k33c2)
/-- java/lang/Math -/
def k33 : Class := { plain "java/lang/Math" (some 0) with
  accessFlags := 49
  interfaces := #[]
  cf := some (fileOf pool33 1 #[.nestMembers #[98]] #[mi 2 7 8, mi 9 198 335, mi 9 201 335] 49 4 #[] #[fe 25 354 339, fe 25 358 339, fe 25 361 339, fe 26 364 339, fe 26 365 339, fe 26 172 173, fe 26 176 173, fe 8 344 339, fe 8 338 339, fe 4120 245 246])
  fields := #[fi "E" .double 25 0 0, fi "PI" .double 25 1 0, fi "TAU" .double 25 2 0, fi "DEGREES_TO_RADIANS" .double 26 3 0, fi "RADIANS_TO_DEGREES" .double 26 4 0, fi "negativeZeroFloatBits" .long 26 5 0, fi "negativeZeroDoubleBits" .long 26 6 0, fi "twoToTheDoubleScaleUp" .double 8 7 0, fi "twoToTheDoubleScaleDown" .double 8 8 0, fi "$assertionsDisabled" .boolean 4120 9 0]
  methods := #[k33m0, k33m1, k33m2]
  instanceTypes := #[]
  staticTypes := #[.double, .double, .double, .double, .double, .long, .long, .double, .double, .boolean]
  resolved := Array.replicate 460 none
  statics := none }

def pool34 : Array CpInfo := pool [(2, .class_ 4), (1, u "java/lang/Object"), (0, u "<init>"), (0, u "()V"), (17, .class_ 26), (1, u "jdk/internal/util/Preconditions"), (6, u "checkIndex"), (13, u "checkFromToIndex"), (7, .class_ 56), (0, u "jdk/internal/util/Preconditions$4"), (57, .class_ 115), (0, u "jdk/internal/util/Preconditions$1"), (7, u "SIOOBE_FORMATTER"), (0, u "Ljava/util/function/BiFunction;"), (0, .class_ 126), (0, u "jdk/internal/util/Preconditions$2"), (3, u "AIOOBE_FORMATTER"), (0, .class_ 132), (0, u "jdk/internal/util/Preconditions$3"), (3, u "IOOBE_FORMATTER"), (41, u "(IILjava/util/function/BiFunction;)I"), (4, u "(IIILjava/util/function/BiFunction;)I")] 10

def k34m0 : Method := me "<init>" "()V" [] none 1 none
def k34c1 : Code := co 3 3 jdk_41_method_11_code
def k34m1 : Method := me "checkIndex" "(IILjava/util/function/BiFunction;)I" [.int, .int, (.object "java/util/function/BiFunction")] (some .int) 9 (some k34c1)
def k34c2 : Code := co 4 4 jdk_41_method_12_code
def k34m2 : Method := me "checkFromToIndex" "(IIILjava/util/function/BiFunction;)I" [.int, .int, .int, (.object "java/util/function/BiFunction")] (some .int) 9 (some k34c2)
/-- jdk/internal/util/Preconditions -/
def k34 : Class := { plain "jdk/internal/util/Preconditions" (some 0) with
  accessFlags := 33
  interfaces := #[]
  cf := some (fileOf pool34 24 #[.nestMembers #[55, 131, 125, 114]] #[mi 1 5 6, mi 9 33 178, mi 9 47 183] 33 2 #[] #[fe 25 123 124, fe 25 130 124, fe 25 136 124])
  fields := #[fi "SIOOBE_FORMATTER" (.object "java/util/function/BiFunction") 25 0 0, fi "AIOOBE_FORMATTER" (.object "java/util/function/BiFunction") 25 1 0, fi "IOOBE_FORMATTER" (.object "java/util/function/BiFunction") 25 2 0]
  methods := #[k34m0, k34m1, k34m2]
  instanceTypes := #[]
  staticTypes := #[(.object "java/util/function/BiFunction"), (.object "java/util/function/BiFunction"), (.object "java/util/function/BiFunction")]
  resolved := Array.replicate 194 none
  statics := some 4 }

def pool35 : Array CpInfo := pool [(9, u "<init>"), (6, .class_ 18), (1, u "java/lang/Object"), (0, u "()V"), (1, .class_ 23), (1, u "jdk/internal/util/ArraysSupport"), (0, u "LOG2_ARRAY_LONG_INDEX_SCALE"), (0, u "I"), (2, u "U"), (0, u "Ljdk/internal/misc/Unsafe;"), (8, u "BIG_ENDIAN"), (0, u "Z"), (8, u "LOG2_BYTE_BIT_SIZE"), (4, u "LOG2_ARRAY_INT_INDEX_SCALE"), (6, .class_ 61), (0, u "[B"), (0, .methodref 21 63), (0, .nameAndType 64 65), (0, u "signedHashCode"), (0, u "(I[BII)I"), (42, u "JLA"), (0, u "Ljdk/internal/access/JavaLangAccess;"), (11, u "LOG2_ARRAY_BOOLEAN_INDEX_SCALE"), (9, u "LOG2_ARRAY_BYTE_INDEX_SCALE"), (5, u "LOG2_ARRAY_CHAR_INDEX_SCALE"), (5, u "LOG2_ARRAY_SHORT_INDEX_SCALE"), (5, u "mismatch"), (12, u "LOG2_ARRAY_FLOAT_INDEX_SCALE"), (24, u "LOG2_ARRAY_DOUBLE_INDEX_SCALE"), (89, u "T_BOOLEAN"), (2, u "T_CHAR"), (1, u "T_FLOAT"), (1, u "T_DOUBLE"), (1, u "T_BYTE"), (1, u "T_SHORT"), (1, u "T_INT"), (1, u "T_LONG"), (1, u "SOFT_MAX_ARRAY_LENGTH"), (26, u "vectorizedHashCode"), (0, u "(Ljava/lang/Object;IIII)I"), (14, u "([BI[BII)I")] 40

def k35m0 : Method := me "<init>" "()V" [] none 2 none
def k35c1 : Code := co 4 5 jdk_48_method_4_code
def k35m1 : Method := me "vectorizedHashCode" "(Ljava/lang/Object;IIII)I" [(.object "java/lang/Object"), .int, .int, .int, .int] (some .int) 9 (some k35c1)
def k35c2 : Code := co 3 6 jdk_48_method_5_code
def k35m2 : Method := me "signedHashCode" "(I[BII)I" [.int, (.array .byte), .int, .int] (some .int) 10 (some k35c2)
def k35c3 : Code := co 8 8 jdk_48_method_14_code
def k35m3 : Method := me "mismatch" "([BI[BII)I" [(.array .byte), .int, (.array .byte), .int, .int] (some .int) 9 (some k35c3)
/-- jdk/internal/util/ArraysSupport -/
def k35 : Class := { plain "jdk/internal/util/ArraysSupport" (some 0) with
  accessFlags := 33
  interfaces := #[]
  cf := some (fileOf pool35 21 #[] #[mi 2 9 19, mi 9 321 322, mi 10 64 65, mi 9 149 337] 33 16 #[] #[fe 24 28 29, fe 26 38 39, fe 25 121 25, fe 25 131 25, fe 25 137 25, fe 25 143 25, fe 25 53 25, fe 25 24 25, fe 25 162 25, fe 25 187 25, fe 26 48 25, fe 25 277 25, fe 25 280 25, fe 25 282 25, fe 25 284 25, fe 25 286 25, fe 25 288 25, fe 25 290 25, fe 25 292 25, fe 26 108 109, fe 25 294 25])
  fields := #[fi "U" (.object "jdk/internal/misc/Unsafe") 24 0 0, fi "BIG_ENDIAN" .boolean 26 1 0, fi "LOG2_ARRAY_BOOLEAN_INDEX_SCALE" .int 25 2 0, fi "LOG2_ARRAY_BYTE_INDEX_SCALE" .int 25 3 0, fi "LOG2_ARRAY_CHAR_INDEX_SCALE" .int 25 4 0, fi "LOG2_ARRAY_SHORT_INDEX_SCALE" .int 25 5 0, fi "LOG2_ARRAY_INT_INDEX_SCALE" .int 25 6 0, fi "LOG2_ARRAY_LONG_INDEX_SCALE" .int 25 7 0, fi "LOG2_ARRAY_FLOAT_INDEX_SCALE" .int 25 8 0, fi "LOG2_ARRAY_DOUBLE_INDEX_SCALE" .int 25 9 0, fi "LOG2_BYTE_BIT_SIZE" .int 26 10 0, fi "T_BOOLEAN" .int 25 11 0, fi "T_CHAR" .int 25 12 0, fi "T_FLOAT" .int 25 13 0, fi "T_DOUBLE" .int 25 14 0, fi "T_BYTE" .int 25 15 0, fi "T_SHORT" .int 25 16 0, fi "T_INT" .int 25 17 0, fi "T_LONG" .int 25 18 0, fi "JLA" (.object "jdk/internal/access/JavaLangAccess") 26 19 0, fi "SOFT_MAX_ARRAY_LENGTH" .int 25 20 0]
  methods := #[k35m0, k35m1, k35m2, k35m3]
  instanceTypes := #[]
  staticTypes := #[(.object "jdk/internal/misc/Unsafe"), .boolean, .int, .int, .int, .int, .int, .int, .int, .int, .int, .int, .int, .int, .int, .int, .int, .int, .int, (.object "jdk/internal/access/JavaLangAccess"), .int]
  resolved := Array.replicate 378 none
  statics := none }

def pool36 : Array CpInfo := pool [(2, .class_ 4), (1, u "java/lang/Object"), (0, u "<init>"), (0, u "()V"), (7, .class_ 16), (1, u "java/util/Arrays"), (57, .class_ 76), (1, u "java/util/Arrays$NaturalOrder"), (9, .methodref 2 87), (0, .nameAndType 88 89), (0, u "getClass"), (0, u "()Ljava/lang/Class;"), (20, .class_ 111), (0, u "[Ljava/lang/Object;"), (1, .class_ 115), (1, u "java/util/Arrays$LegacyMergeSort"), (1, u "Z"), (21, u "copyOfRange"), (10, .methodref 151 152), (0, .class_ 153), (0, .nameAndType 154 155), (0, u "java/lang/System"), (0, u "arraycopy"), (0, u "(Ljava/lang/Object;ILjava/lang/Object;II)V"), (144, .methodref 14 301), (0, .nameAndType 302 303), (0, u "copyOf"), (0, u "([Ljava/lang/Object;ILjava/lang/Class;)[Ljava/lang/Object;"), (0, .methodref 305 306), (0, .class_ 307), (0, .nameAndType 308 309), (0, u "java/lang/Math"), (0, u "min"), (0, u "(II)I"), (29, .methodref 14 340), (0, .nameAndType 341 342), (0, u "copyOfRangeByte"), (0, u "([BII)[B"), (0, .methodref 14 344), (0, .nameAndType 345 346), (0, u "checkLength"), (0, u "(II)V"), (28, .class_ 376), (0, u "java/util/Arrays$ArrayList"), (68, u "$assertionsDisabled"), (269, u "MIN_ARRAY_SORT_GRAN"), (0, u "I"), (2, u "INSERTIONSORT_THRESHOLD"), (140, u "([Ljava/lang/Object;I)[Ljava/lang/Object;"), (114, .class_ 976), (0, u "java/util/Arrays$ArrayItr")] 52

def k36m0 : Method := me "<init>" "()V" [] none 2 none
def k36c1 : Code := co 3 2 jdk_65_method_119_code
def k36m1 : Method := me "copyOf" "([Ljava/lang/Object;I)[Ljava/lang/Object;" [(.array (.object "java/lang/Object")), .int] (some (.array (.object "java/lang/Object"))) 9 (some k36c1)
def k36c2 : Code := co 6 4 jdk_65_method_120_code
def k36m2 : Method := me "copyOf" "([Ljava/lang/Object;ILjava/lang/Class;)[Ljava/lang/Object;" [(.array (.object "java/lang/Object")), .int, (.object "java/lang/Class")] (some (.array (.object "java/lang/Object"))) 9 (some k36c2)
def k36c3 : Code := co 4 2 jdk_65_method_131_code
def k36m3 : Method := me "checkLength" "(II)V" [.int, .int] none 10 (some k36c3)
def k36c4 : Code := co 3 3 jdk_65_method_132_code
def k36m4 : Method := me "copyOfRange" "([BII)[B" [(.array .byte), .int, .int] (some (.array .byte)) 9 (some k36c4)
def k36c5 : Code := co 6 5 jdk_65_method_133_code
def k36m5 : Method := me "copyOfRangeByte" "([BII)[B" [(.array .byte), .int, .int] (some (.array .byte)) 10 (some k36c5)
/-- java/util/Arrays -/
def k36 : Class := { plain "java/util/Arrays" (some 0) with
  accessFlags := 49
  interfaces := #[]
  cf := some (fileOf pool36 14 #[.nestMembers #[975, 375, 113, 74]] #[mi 2 5 6, mi 9 302 860, mi 9 302 303, mi 10 345 346, mi 9 139 342, mi 10 341 342] 49 2 #[] #[fe 26 715 716, fe 26 719 716, fe 4120 445 117])
  fields := #[fi "MIN_ARRAY_SORT_GRAN" .int 26 0 0, fi "INSERTIONSORT_THRESHOLD" .int 26 1 0, fi "$assertionsDisabled" .boolean 4120 2 0]
  methods := #[k36m0, k36m1, k36m2, k36m3, k36m4, k36m5]
  instanceTypes := #[]
  staticTypes := #[.int, .int, .boolean]
  resolved := Array.replicate 1029 none
  statics := none }

def pool37 : Array CpInfo := pool [(2, .class_ 4), (1, u "java/lang/Object"), (0, u "<init>"), (0, u "()V"), (1, .class_ 10), (1, u "java/lang/System"), (0, u "allowSecurityManager"), (0, u "I"), (16, u "cons"), (0, u "Ljava/io/Console;"), (77, .class_ 110), (1, u "java/lang/System$CallersHolder"), (43, u "initialErrStream"), (0, u "Ljava/io/PrintStream;"), (19, u "security"), (0, u "Ljava/lang/SecurityManager;"), (31, .class_ 209), (0, u "java/lang/System$1"), (7, u "props"), (0, u "Ljava/util/Properties;"), (2, u "lineSeparator"), (0, u "Ljava/lang/String;"), (96, .class_ 321), (1, u "java/lang/System$LoggerFinder"), (5, .class_ 328), (0, u "java/lang/System$Logger"), (67, u "err"), (2, u "out"), (91, u "notSupportedJnuEncoding"), (15, u "in"), (17, u "initialIn"), (0, u "Ljava/io/InputStream;"), (35, u "bootLayer"), (0, u "Ljava/lang/ModuleLayer;"), (99, .class_ 664), (0, u "java/lang/System$2"), (9, u "NEVER"), (2, u "MAYBE"), (49, u "arraycopy"), (0, u "(Ljava/lang/Object;ILjava/lang/Object;II)V"), (72, .class_ 802), (0, u "java/lang/System$Logger$Level")] 31

def k37m0 : Method := me "<init>" "()V" [] none 2 none
def k37m1 : Method := me "arraycopy" "(Ljava/lang/Object;ILjava/lang/Object;II)V" [(.object "java/lang/Object"), .int, (.object "java/lang/Object"), .int, .int] none 265 none
/-- java/lang/System -/
def k37 : Class := { plain "java/lang/System" (some 0) with
  accessFlags := 49
  interfaces := #[]
  cf := some (fileOf pool37 8 #[.nestMembers #[319, 327, 801, 108, 663, 208]] #[mi 2 5 6, mi 265 727 728] 49 2 #[] #[fe 25 507 526, fe 25 399 155, fe 25 396 155, fe 10 525 526, fe 26 674 12, fe 26 677 12, fe 10 11 12, fe 74 175 176, fe 10 491 222, fe 74 29 30, fe 74 154 155, fe 10 217 218, fe 10 221 222, fe 8 562 563])
  fields := #[fi "in" (.object "java/io/InputStream") 25 0 0, fi "out" (.object "java/io/PrintStream") 25 1 0, fi "err" (.object "java/io/PrintStream") 25 2 0, fi "initialIn" (.object "java/io/InputStream") 10 3 0, fi "NEVER" .int 26 4 0, fi "MAYBE" .int 26 5 0, fi "allowSecurityManager" .int 10 6 0, fi "security" (.object "java/lang/SecurityManager") 74 7 0, fi "notSupportedJnuEncoding" (.object "java/lang/String") 10 8 0, fi "cons" (.object "java/io/Console") 74 9 0, fi "initialErrStream" (.object "java/io/PrintStream") 74 10 0, fi "props" (.object "java/util/Properties") 10 11 0, fi "lineSeparator" (.object "java/lang/String") 10 12 0, fi "bootLayer" (.object "java/lang/ModuleLayer") 8 13 0]
  methods := #[k37m0, k37m1]
  instanceTypes := #[]
  staticTypes := #[(.object "java/io/InputStream"), (.object "java/io/PrintStream"), (.object "java/io/PrintStream"), (.object "java/io/InputStream"), .int, .int, .int, (.object "java/lang/SecurityManager"), (.object "java/lang/String"), (.object "java/io/Console"), (.object "java/io/PrintStream"), (.object "java/util/Properties"), (.object "java/lang/String"), (.object "java/lang/ModuleLayer")]
  resolved := Array.replicate 834 none
  statics := none }

def pool38 : Array CpInfo := pool [(23, .class_ 25), (1, u "java/util/Map$Entry"), (6, .class_ 34), (1, u "java/util/Map"), (34, .class_ 70), (0, u "java/lang/Object")] 107

/-- java/util/Map$Entry -/
def k38 : Class := { plain "java/util/Map$Entry" (some 0) with
  accessFlags := 1537
  interfaces := #[]
  cf := some (fileOf pool38 23 #[.nestHost 32] #[] 1537 69 #[] #[])
  fields := #[]
  methods := #[]
  instanceTypes := #[]
  staticTypes := #[]
  resolved := Array.replicate 178 none
  statics := none }

def pool39 : Array CpInfo := pool [(1, .methodref 2 3), (0, .class_ 4), (0, .nameAndType 5 6), (0, u "java/lang/Object"), (0, u "<init>"), (0, u "()V"), (0, .fieldref 8 9), (0, .class_ 10), (0, .nameAndType 11 12), (0, u "java/util/HashMap$Node"), (0, u "hash"), (0, u "I"), (0, .fieldref 8 14), (0, .nameAndType 15 16), (0, u "key"), (0, u "Ljava/lang/Object;"), (0, .fieldref 8 18), (0, .nameAndType 19 16), (0, u "value"), (0, .fieldref 8 21), (0, .nameAndType 22 23), (0, u "next"), (0, u "Ljava/util/HashMap$Node;"), (22, .class_ 47), (0, u "java/util/Map$Entry"), (15, u "(ILjava/lang/Object;Ljava/lang/Object;Ljava/util/HashMap$Node;)V"), (24, .class_ 89), (0, u "java/util/HashMap")] 5

def k39c0 : Code := co 2 5 jdk_70_method_1_code
def k39m0 : Method := me "<init>" "(ILjava/lang/Object;Ljava/lang/Object;Ljava/util/HashMap$Node;)V" [.int, (.object "java/lang/Object"), (.object "java/lang/Object"), (.object "java/util/HashMap$Node")] none 0 (some k39c0)
/-- java/util/HashMap$Node -/
def k39 : Class := { plain "java/util/HashMap$Node" (some 0) with
  accessFlags := 32
  interfaces := #[38]
  cf := some (fileOf pool39 8 #[.nestHost 88] #[mi 0 5 63] 32 2 #[46] #[fe 16 11 12, fe 16 15 16, fe 0 19 16, fe 0 22 23])
  fields := #[fi "hash" .int 16 0 0, fi "key" (.object "java/lang/Object") 16 1 0, fi "value" (.object "java/lang/Object") 0 2 0, fi "next" (.object "java/util/HashMap$Node") 0 3 0]
  methods := #[k39m0]
  instanceTypes := #[.int, (.object "java/lang/Object"), (.object "java/lang/Object"), (.object "java/util/HashMap$Node")]
  staticTypes := #[]
  resolved := Array.replicate 95 none
  statics := none }

def pool40 : Array CpInfo := pool [(1, .class_ 2), (0, u "java/util/function/Supplier"), (0, .class_ 4), (0, u "java/lang/Object"), (0, u "get"), (0, u "()Ljava/lang/Object;")] 7

def k40m0 : Method := me "get" "()Ljava/lang/Object;" [] (some (.object "java/lang/Object")) 1025 none
/-- java/util/function/Supplier -/
def k40 : Class := { plain "java/util/function/Supplier" (some 0) with
  accessFlags := 1537
  interfaces := #[]
  cf := some (fileOf pool40 1 #[] #[mi 1025 5 6] 1537 3 #[] #[])
  fields := #[]
  methods := #[k40m0]
  instanceTypes := #[]
  staticTypes := #[]
  resolved := Array.replicate 14 none
  statics := none }

def pool41 : Array CpInfo := pool [(1, u "java/lang/Class"), (0, .class_ 1), (0, u "java/lang/Object"), (0, .class_ 3)] 0

/-- java/lang/Class -/
def k41 : Class := { plain "java/lang/Class" (some 0) with
  accessFlags := 49
  interfaces := #[]
  cf := some (fileOf pool41 2 #[] #[] 49 4 #[] #[])
  fields := #[]
  methods := #[]
  instanceTypes := #[]
  staticTypes := #[]
  resolved := Array.replicate 5 none
  statics := none }

/-- the primitive byte -/
def k42 : Class := { plain "byte" none with kind := .primitive 'B', accessFlags := 0x411 }
/-- [B -/
def k43 : Class := { plain "[B" (some 0) with kind := .array 42 .byte, interfaces := #[17, 2], accessFlags := 1041 }

/-- the primitive char -/
def k44 : Class := { plain "char" none with kind := .primitive 'C', accessFlags := 0x411 }
/-- [C -/
def k45 : Class := { plain "[C" (some 0) with kind := .array 44 .char, interfaces := #[17, 2], accessFlags := 1041 }

/-- the primitive int -/
def k46 : Class := { plain "int" none with kind := .primitive 'I', accessFlags := 0x411 }
/-- [I -/
def k47 : Class := { plain "[I" (some 0) with kind := .array 46 .int, interfaces := #[17, 2], accessFlags := 1041 }

/-- [Ljava/lang/Object; -/
def k48 : Class := { plain "[Ljava/lang/Object;" (some 0) with kind := .array 0 (.object "java/lang/Object"), interfaces := #[17, 2], accessFlags := 1041, mirror := some 5 }

/-- [Ljava/lang/String; -/
def k49 : Class := { plain "[Ljava/lang/String;" (some 0) with kind := .array 7 (.object "java/lang/String"), interfaces := #[17, 2], accessFlags := 1041 }

/-- [Ljava/util/HashMap$Node; -/
def k50 : Class := { plain "[Ljava/util/HashMap$Node;" (some 0) with kind := .array 39 (.object "java/util/HashMap$Node"), interfaces := #[17, 2], accessFlags := 1041 }

def classes0 : Array Class := #[k0, k1, k2, k3, k4, k5, k6, k7, k8, k9, k10, k11, k12, k13, k14, k15, k16, k17, k18, k19, k20, k21, k22, k23, k24, k25, k26, k27, k28, k29, k30, k31, k32, k33, k34, k35, k36, k37, k38, k39, k40, k41, k42, k43, k44, k45, k46, k47, k48, k49, k50]
/-- the class that the rule has made for the site at 7 of com/example/hand_balancer/handbalancer/cli/Arguments.required -/
def k51 : Class := Jvm.LamKit.madeRec { classes := classes0 } "com/example/hand_balancer/handbalancer/cli/Arguments" (Jvm.Lambda.Shape.mk "java/util/function/Supplier" "get" (Jvm.ClassFile.MethodDescriptor.mk ([] : List Jvm.ClassFile.FieldType) (Option.some (Jvm.ClassFile.FieldType.object "java/lang/Object"))) ([(Jvm.ClassFile.FieldType.object "java/lang/String"), (Jvm.ClassFile.FieldType.object "java/lang/String")] : List Jvm.ClassFile.FieldType) (6 : Nat) "com/example/hand_balancer/handbalancer/cli/Arguments" "lambda$required$0" (Jvm.ClassFile.MethodDescriptor.mk ([(Jvm.ClassFile.FieldType.object "java/lang/String"), (Jvm.ClassFile.FieldType.object "java/lang/String")] : List Jvm.ClassFile.FieldType) (Option.some (Jvm.ClassFile.FieldType.object "com/example/hand_balancer/handbalancer/cli/InvalidInputException"))) false (Jvm.ClassFile.MethodDescriptor.mk ([] : List Jvm.ClassFile.FieldType) (Option.some (Jvm.ClassFile.FieldType.object "com/example/hand_balancer/handbalancer/cli/InvalidInputException")))) 51

def heap : Heap := #[{ cls := 7, slots := #[.long 0, .int 1, .null, .int 0, .null, .int 0, .int 0], vm := .statics 7 },
  { cls := 18, slots := #[.long 0, .int 0, .ref 8, .ref 9], vm := .statics 18 },
  { cls := 28, slots := #[.long 0, .int 0, .null, .ref 11, .ref 7, .null, .null, .null, .int 0, .int 1], vm := .statics 28 },
  { cls := 32, slots := #[.ref 10], vm := .statics 32 },
  { cls := 34, slots := #[.null, .null, .null], vm := .statics 34 },
  { cls := 41, slots := #[], vm := .mirror 48 },
  { cls := 48, slots := #[], vm := .none },
  { cls := 31, slots := #[.ref 6, .int 0], vm := .none },
  { cls := 48, slots := #[], vm := .none },
  { cls := 48, slots := #[], vm := .none },
  { cls := 32, slots := #[.null], vm := .none },
  { cls := 0, slots := #[], vm := .none }]
def classes : Array Class := #[k0, k1, k2, k3, k4, k5, k6, k7, k8, k9, k10, k11, k12, k13, k14, k15, k16, k17, k18, k19, k20, k21, k22, k23, k24, k25, k26, k27, k28, k29, k30, k31, k32, k33, k34, k35, k36, k37, k38, k39, k40, k41, k42, k43, k44, k45, k46, k47, k48, k49, k50, k51]
def interned : List (Array UInt16 × Addr) := []
def slotsUsed : Nat := 28
def theMethod : MethodId := ⟨1, 7⟩
def args0 : Array Value := #[.int 5, .int 6, .int 7, .int 8, .int 9, .int 3]
def aboutOver (below : List Frame) : State where
  vm := { classes := classes, interned := interned.toArray }
  heap := heap
  slotsUsed := slotsUsed
  threads := #[{ frames := .invoking theMethod args0 :: below }]
def below0 : List Frame := [.native { method := ⟨0, 0⟩, args := #[] }]
def about1 : State := aboutOver below0
def p0 : Program := .bare "" "" ""
def e0 : Env := launch0.env 0 0 0
theorem w_frames : about1.frames = Frame.invoking theMethod args0 :: below0 := rfl
theorem w_args : argsFit about1.vm theMethod args0 = true := by decide +kernel
theorem w_heap : heapFits about1 = true := by decide +kernel
theorem w_runnable : about1.curStatus? = some .runnable := by decide +kernel
theorem w_alone : about1.alone = true := by decide +kernel
theorem w_named : about1.methodNamed? x = some theMethod := by decide +kernel
theorem w_hears : about1.hears theMethod below0 = true := by decide +kernel
theorem w_ripe : about1.ripe theMethod args0 below0 = true := by decide +kernel
theorem w_running : about1.status = .running := rfl
theorem w_room : about1.hasRoom e0.platform room_1 = true :=
  launch0.hasRoom_least _ room_1 (by decide +kernel) (by decide +kernel) (by decide +kernel) (by decide +kernel) (by decide +kernel) (by decide +kernel)
theorem allAtoms_all (ts : List Jvm.Cond) (a : Array Jvm.Value) (st : Jvm.State) : (allAtoms ts).before a st = ts.all (fun c => c.before a st) := by
  induction ts with
  | nil => rfl
  | cons c t ih =>
    show (Jvm.Cond.and c (allAtoms t)).before a st = _
    rw [Jvm.Cond.before_and, ih, List.all_cons]
def words1 : List Jvm.Cond := Jvm.Cond.code x code maxLocals ret :: tables_1
/-- a 'code' word, met by the world's own term for the bytes: nothing is compared byte by byte -/
theorem code_word {y : MethodName} {bytes : ByteArray} {mx : Nat} {rt : Option FieldType} {a : Array Value} {s : State} {m : MethodId} {meth : Method} {c : Code} (h1 : s.methodNamed? y = some m) (h2 : s.vm.method? m = some meth) (h3 : meth.code = some c) (h4 : c.code = bytes)
    (h5 : (c.maxLocals == mx && c.exceptionTable.isEmpty && decide (c.maxStack ≤ mostOperands) && decide (meth.sig.returnType = rt) && !meth.locks && decide (parseMethodDescriptor y.desc = some meth.sig)) = true) : (Jvm.Cond.code y bytes mx rt).before a s = true := by
  simp only [Bool.and_eq_true, beq_iff_eq, Bool.not_eq_true', decide_eq_true_eq] at h5
  obtain ⟨⟨⟨⟨⟨g1, g2⟩, g3⟩, g4⟩, g5⟩, g6⟩ := h5
  simp [Cond.before, Cond.holds, Cond.value, h1, h2, h3, h4, g1, g2, g3, g4, g5, g6]
def isCode : Jvm.Cond → Bool
  | .code _ _ _ _ => true
  | _ => false
theorem all_split {L : List Jvm.Cond} {P : Jvm.Cond → Bool} (h1 : L.all (fun c => isCode c || P c) = true) (h2 : ∀ c ∈ L.filter isCode, P c = true) : L.all P = true := by
  refine List.all_eq_true.mpr fun c hc => ?_
  have h := List.all_eq_true.mp h1 c hc
  rcases Bool.eq_false_or_eq_true (isCode c) with hi | hi
  · exact h2 c (List.mem_filter.mpr ⟨hc, hi⟩)
  · simpa [hi] using h
theorem w_c0 : (Jvm.Cond.code x code maxLocals ret).before args0 about1 = true := code_word (m := ⟨1, 7⟩) (meth := k1m7) (c := k1c7) (by decide +kernel) rfl rfl rfl (by decide +kernel)
theorem w_c1 : (Jvm.Cond.code Yn52 jdk_42_method_139_code (1 : Nat) (Option.some (Jvm.ClassFile.FieldType.object "java/lang/String"))).before args0 about1 = true := code_word (m := ⟨7, 11⟩) (meth := k7m11) (c := k7c11) (by decide +kernel) rfl rfl rfl (by decide +kernel)
theorem w_c2 : (Jvm.Cond.code Yn50 jdk_43_method_3_code (1 : Nat) (Option.some Jvm.ClassFile.FieldType.boolean)).before args0 about1 = true := code_word (m := ⟨8, 1⟩) (meth := k8m1) (c := k8c1) (by decide +kernel) rfl rfl rfl (by decide +kernel)
theorem w_c3 : (Jvm.Cond.code Yn51 jdk_43_method_46_code (1 : Nat) (Option.some (Jvm.ClassFile.FieldType.array Jvm.ClassFile.FieldType.byte))).before args0 about1 = true := code_word (m := ⟨8, 7⟩) (meth := k8m7) (c := k8c7) (by decide +kernel) rfl rfl rfl (by decide +kernel)
theorem w_c4 : (Jvm.Cond.code Yn35 jdk_42_method_151_code (3 : Nat) (Option.none : Option Jvm.ClassFile.FieldType)).before args0 about1 = true := code_word (m := ⟨7, 13⟩) (meth := k7m13) (c := k7c13) (by decide +kernel) rfl rfl rfl (by decide +kernel)
theorem w_c5 : (Jvm.Cond.code Yn36 object_method_1_code (1 : Nat) (Option.none : Option Jvm.ClassFile.FieldType)).before args0 about1 = true := code_word (m := ⟨0, 0⟩) (meth := k0m0) (c := k0c0) (by decide +kernel) rfl rfl rfl (by decide +kernel)
theorem w_c6 : (Jvm.Cond.code Yn16 jdk_42_method_3_code (2 : Nat) (Option.none : Option Jvm.ClassFile.FieldType)).before args0 about1 = true := code_word (m := ⟨7, 1⟩) (meth := k7m1) (c := k7c1) (by decide +kernel) rfl rfl rfl (by decide +kernel)
theorem w_c7 : (Jvm.Cond.code Yn17 jdk_42_method_149_code (6 : Nat) (Option.none : Option Jvm.ClassFile.FieldType)).before args0 about1 = true := code_word (m := ⟨7, 12⟩) (meth := k7m12) (c := k7c12) (by decide +kernel) rfl rfl rfl (by decide +kernel)
theorem w_c8 : (Jvm.Cond.code Yn18 jdk_52_method_16_code (6 : Nat) (Option.some (Jvm.ClassFile.FieldType.array Jvm.ClassFile.FieldType.byte))).before args0 about1 = true := code_word (m := ⟨9, 2⟩) (meth := k9m2) (c := k9c2) (by decide +kernel) rfl rfl rfl (by decide +kernel)
theorem w_c9 : (Jvm.Cond.code Yn19 jdk_52_method_21_code (7 : Nat) (Option.some Jvm.ClassFile.FieldType.int)).before args0 about1 = true := code_word (m := ⟨9, 3⟩) (meth := k9m3) (c := k9c3) (by decide +kernel) rfl rfl rfl (by decide +kernel)
theorem w_c10 : (Jvm.Cond.code Yn20 jdk_52_method_15_code (2 : Nat) (Option.some Jvm.ClassFile.FieldType.byte)).before args0 about1 = true := code_word (m := ⟨9, 1⟩) (meth := k9m1) (c := k9c1) (by decide +kernel) rfl rfl rfl (by decide +kernel)
theorem w_c11 : (Jvm.Cond.code Yn21 method_5_code (6 : Nat) (Option.some (Jvm.ClassFile.FieldType.object "java/lang/String"))).before args0 about1 = true := code_word (m := ⟨1, 4⟩) (meth := k1m4) (c := k1c4) (by decide +kernel) rfl rfl rfl (by decide +kernel)
theorem w_c12 : (Jvm.Cond.code Yn22 method_2_code (1 : Nat) (Option.some Jvm.ClassFile.FieldType.int)).before args0 about1 = true := code_word (m := ⟨1, 1⟩) (meth := k1m1) (c := k1c1) (by decide +kernel) rfl rfl rfl (by decide +kernel)
theorem w_c13 : (Jvm.Cond.code Yn23 method_3_code (1 : Nat) (Option.some Jvm.ClassFile.FieldType.boolean)).before args0 about1 = true := code_word (m := ⟨1, 2⟩) (meth := k1m2) (c := k1c2) (by decide +kernel) rfl rfl rfl (by decide +kernel)
theorem w_c14 : (Jvm.Cond.code Yn24 method_4_code (1 : Nat) (Option.some Jvm.ClassFile.FieldType.int)).before args0 about1 = true := code_word (m := ⟨1, 3⟩) (meth := k1m3) (c := k1c3) (by decide +kernel) rfl rfl rfl (by decide +kernel)
theorem w_c15 : (Jvm.Cond.code Yn37 jdk_38_method_2_code (1 : Nat) (Option.none : Option Jvm.ClassFile.FieldType)).before args0 about1 = true := code_word (m := ⟨18, 0⟩) (meth := k18m0) (c := k18c0) (by decide +kernel) rfl rfl rfl (by decide +kernel)
theorem w_c16 : (Jvm.Cond.code Yn57 jdk_39_method_1_code (1 : Nat) (Option.none : Option Jvm.ClassFile.FieldType)).before args0 about1 = true := code_word (m := ⟨15, 0⟩) (meth := k15m0) (c := k15c0) (by decide +kernel) rfl rfl rfl (by decide +kernel)
theorem w_c17 : (Jvm.Cond.code Yn38 jdk_22_method_1_code (1 : Nat) (Option.none : Option Jvm.ClassFile.FieldType)).before args0 about1 = true := code_word (m := ⟨12, 0⟩) (meth := k12m0) (c := k12c0) (by decide +kernel) rfl rfl rfl (by decide +kernel)
theorem w_c18 : (Jvm.Cond.code Yn71 jdk_96_method_19_code (2 : Nat) (Option.some (Jvm.ClassFile.FieldType.object "java/util/Set"))).before args0 about1 = true := code_word (m := ⟨19, 1⟩) (meth := k19m1) (c := k19c1) (by decide +kernel) rfl rfl rfl (by decide +kernel)
theorem w_c19 : (Jvm.Cond.code Yn70 jdk_101_method_2_code (3 : Nat) (Option.none : Option Jvm.ClassFile.FieldType)).before args0 about1 = true := code_word (m := ⟨22, 0⟩) (meth := k22m0) (c := k22c0) (by decide +kernel) rfl rfl rfl (by decide +kernel)
theorem w_c20 : (Jvm.Cond.code Yn69 jdk_100_method_1_code (1 : Nat) (Option.none : Option Jvm.ClassFile.FieldType)).before args0 about1 = true := code_word (m := ⟨21, 0⟩) (meth := k21m0) (c := k21c0) (by decide +kernel) rfl rfl rfl (by decide +kernel)
theorem w_c21 : (Jvm.Cond.code Yn39 jdk_47_method_1_code (1 : Nat) (Option.none : Option Jvm.ClassFile.FieldType)).before args0 about1 = true := code_word (m := ⟨20, 0⟩) (meth := k20m0) (c := k20c0) (by decide +kernel) rfl rfl rfl (by decide +kernel)
theorem w_c22 : (Jvm.Cond.code Yn7 jdk_31_method_10_code (1 : Nat) (Option.some (Jvm.ClassFile.FieldType.object "java/lang/Object"))).before args0 about1 = true := code_word (m := ⟨23, 1⟩) (meth := k23m1) (c := k23c1) (by decide +kernel) rfl rfl rfl (by decide +kernel)
theorem w_c23 : (Jvm.Cond.code Yn0 jdk_42_method_66_code (3 : Nat) (Option.some Jvm.ClassFile.FieldType.boolean)).before args0 about1 = true := code_word (m := ⟨7, 3⟩) (meth := k7m3) (c := k7c3) (by decide +kernel) rfl rfl rfl (by decide +kernel)
theorem w_c24 : (Jvm.Cond.code Yn48 jdk_43_method_13_code (3 : Nat) (Option.some Jvm.ClassFile.FieldType.boolean)).before args0 about1 = true := code_word (m := ⟨8, 3⟩) (meth := k8m3) (c := k8c3) (by decide +kernel) rfl rfl rfl (by decide +kernel)
theorem w_c25 : (Jvm.Cond.code Yn90 prog_1_method_2_code (8 : Nat) (Option.some (Jvm.ClassFile.FieldType.object "com/example/hand_balancer/handbalancer/cli/Arguments"))).before args0 about1 = true := code_word (m := ⟨24, 1⟩) (meth := k24m1) (c := k24c1) (by decide +kernel) rfl rfl rfl (by decide +kernel)
theorem w_c26 : (Jvm.Cond.code Yn89 prog_1_method_1_code (1 : Nat) (Option.none : Option Jvm.ClassFile.FieldType)).before args0 about1 = true := code_word (m := ⟨24, 0⟩) (meth := k24m0) (c := k24c0) (by decide +kernel) rfl rfl rfl (by decide +kernel)
theorem w_c27 : (Jvm.Cond.code Yn68 jdk_69_method_7_code (1 : Nat) (Option.none : Option Jvm.ClassFile.FieldType)).before args0 about1 = true := code_word (m := ⟨27, 1⟩) (meth := k27m1) (c := k27c1) (by decide +kernel) rfl rfl rfl (by decide +kernel)
theorem w_c28 : (Jvm.Cond.code Yn67 jdk_71_method_1_code (1 : Nat) (Option.none : Option Jvm.ClassFile.FieldType)).before args0 about1 = true := code_word (m := ⟨26, 0⟩) (meth := k26m0) (c := k26c0) (by decide +kernel) rfl rfl rfl (by decide +kernel)
theorem w_c29 : (Jvm.Cond.code Yn8 jdk_38_method_8_code (1 : Nat) (Option.some Jvm.ClassFile.FieldType.int)).before args0 about1 = true := code_word (m := ⟨18, 3⟩) (meth := k18m3) (c := k18c3) (by decide +kernel) rfl rfl rfl (by decide +kernel)
theorem w_c30 : (Jvm.Cond.code Yn102 prog_1_method_3_code (3 : Nat) (Option.some (Jvm.ClassFile.FieldType.object "java/util/List"))).before args0 about1 = true := code_word (m := ⟨24, 2⟩) (meth := k24m2) (c := k24c2) (by decide +kernel) rfl rfl rfl (by decide +kernel)
theorem w_c31 : (Jvm.Cond.code Yn101 jdk_40_method_48_code (1 : Nat) (Option.some (Jvm.ClassFile.FieldType.object "java/util/List"))).before args0 about1 = true := code_word (m := ⟨14, 5⟩) (meth := k14m5) (c := k14c5) (by decide +kernel) rfl rfl rfl (by decide +kernel)
theorem w_c32 : (Jvm.Cond.code Yn100 jdk_56_method_3_code (2 : Nat) (Option.some (Jvm.ClassFile.FieldType.object "java/util/List"))).before args0 about1 = true := code_word (m := ⟨28, 1⟩) (meth := k28m1) (c := k28c1) (by decide +kernel) rfl rfl rfl (by decide +kernel)
theorem w_c33 : (Jvm.Cond.code Yn60 jdk_38_method_9_code (1 : Nat) (Option.some Jvm.ClassFile.FieldType.boolean)).before args0 about1 = true := code_word (m := ⟨18, 4⟩) (meth := k18m4) (c := k18c4) (by decide +kernel) rfl rfl rfl (by decide +kernel)
theorem w_c34 : (Jvm.Cond.code Yn99 jdk_40_method_36_code (0 : Nat) (Option.some (Jvm.ClassFile.FieldType.object "java/util/List"))).before args0 about1 = true := code_word (m := ⟨14, 3⟩) (meth := k14m3) (c := k14c3) (by decide +kernel) rfl rfl rfl (by decide +kernel)
theorem w_c35 : (Jvm.Cond.code Yn9 jdk_45_method_3_code (1 : Nat) (Option.some Jvm.ClassFile.FieldType.int)).before args0 about1 = true := code_word (m := ⟨31, 1⟩) (meth := k31m1) (c := k31c1) (by decide +kernel) rfl rfl rfl (by decide +kernel)
theorem w_c36 : (Jvm.Cond.code Yn26 method_7_code (4 : Nat) (Option.some Jvm.ClassFile.FieldType.boolean)).before args0 about1 = true := code_word (m := ⟨1, 6⟩) (meth := k1m6) (c := k1c6) (by decide +kernel) rfl rfl rfl (by decide +kernel)
theorem w_c37 : (Jvm.Cond.code Yn103 prog_1_method_6_code (7 : Nat) (Option.some (Jvm.ClassFile.FieldType.object "java/time/Duration"))).before args0 about1 = true := code_word (m := ⟨24, 4⟩) (meth := k24m4) (c := k24c4) (by decide +kernel) rfl rfl rfl (by decide +kernel)
theorem w_c38 : (Jvm.Cond.code Yn1 prog_1_method_5_code (2 : Nat) (Option.some (Jvm.ClassFile.FieldType.object "java/util/Optional"))).before args0 about1 = true := code_word (m := ⟨24, 3⟩) (meth := k24m3) (c := k24c3) (by decide +kernel) rfl rfl rfl (by decide +kernel)
theorem w_c39 : (Jvm.Cond.code Yn10 jdk_69_method_12_code (3 : Nat) (Option.some (Jvm.ClassFile.FieldType.object "java/lang/Object"))).before args0 about1 = true := code_word (m := ⟨27, 2⟩) (meth := k27m2) (c := k27c2) (by decide +kernel) rfl rfl rfl (by decide +kernel)
theorem w_c40 : (Jvm.Cond.code Yn2 jdk_69_method_13_code (8 : Nat) (Option.some (Jvm.ClassFile.FieldType.object "java/util/HashMap$Node"))).before args0 about1 = true := code_word (m := ⟨27, 3⟩) (meth := k27m3) (c := k27c3) (by decide +kernel) rfl rfl rfl (by decide +kernel)
theorem w_c41 : (Jvm.Cond.code Yn27 jdk_32_method_4_code (1 : Nat) (Option.some (Jvm.ClassFile.FieldType.object "java/util/Optional"))).before args0 about1 = true := code_word (m := ⟨32, 1⟩) (meth := k32m1) (c := k32c1) (by decide +kernel) rfl rfl rfl (by decide +kernel)
theorem w_c42 : (Jvm.Cond.code Yn74 jdk_32_method_7_code (1 : Nat) (Option.some Jvm.ClassFile.FieldType.boolean)).before args0 about1 = true := code_word (m := ⟨32, 2⟩) (meth := k32m2) (c := k32c2) (by decide +kernel) rfl rfl rfl (by decide +kernel)
theorem w_c43 : (Jvm.Cond.code Yn11 jdk_38_method_25_code (2 : Nat) (Option.some Jvm.ClassFile.FieldType.boolean)).before args0 about1 = true := code_word (m := ⟨18, 9⟩) (meth := k18m9) (c := k18c9) (by decide +kernel) rfl rfl rfl (by decide +kernel)
theorem w_c44 : (Jvm.Cond.code Yn40 jdk_38_method_24_code (4 : Nat) (Option.none : Option Jvm.ClassFile.FieldType)).before args0 about1 = true := code_word (m := ⟨18, 8⟩) (meth := k18m8) (c := k18c8) (by decide +kernel) rfl rfl rfl (by decide +kernel)
theorem w_c45 : (Jvm.Cond.code Yn41 jdk_38_method_7_code (1 : Nat) (Option.some (Jvm.ClassFile.FieldType.array (Jvm.ClassFile.FieldType.object "java/lang/Object")))).before args0 about1 = true := code_word (m := ⟨18, 2⟩) (meth := k18m2) (c := k18c2) (by decide +kernel) rfl rfl rfl (by decide +kernel)
theorem w_c46 : (Jvm.Cond.code Yn42 jdk_38_method_6_code (4 : Nat) (Option.some (Jvm.ClassFile.FieldType.array (Jvm.ClassFile.FieldType.object "java/lang/Object")))).before args0 about1 = true := code_word (m := ⟨18, 1⟩) (meth := k18m1) (c := k18c1) (by decide +kernel) rfl rfl rfl (by decide +kernel)
theorem w_c47 : (Jvm.Cond.code Yn43 jdk_29_method_65_code (2 : Nat) (Option.some Jvm.ClassFile.FieldType.int)).before args0 about1 = true := code_word (m := ⟨33, 1⟩) (meth := k33m1) (c := k33c1) (by decide +kernel) rfl rfl rfl (by decide +kernel)
theorem w_c48 : (Jvm.Cond.code Yn28 method_6_code (9 : Nat) (Option.some (Jvm.ClassFile.FieldType.object "java/lang/String"))).before args0 about1 = true := code_word (m := ⟨1, 5⟩) (meth := k1m5) (c := k1c5) (by decide +kernel) rfl rfl rfl (by decide +kernel)
theorem w_c49 : (Jvm.Cond.code Yn12 jdk_38_method_20_code (2 : Nat) (Option.some (Jvm.ClassFile.FieldType.object "java/lang/Object"))).before args0 about1 = true := code_word (m := ⟨18, 7⟩) (meth := k18m7) (c := k18c7) (by decide +kernel) rfl rfl rfl (by decide +kernel)
theorem w_c50 : (Jvm.Cond.code Yn58 jdk_31_method_17_code (2 : Nat) (Option.some Jvm.ClassFile.FieldType.int)).before args0 about1 = true := code_word (m := ⟨23, 2⟩) (meth := k23m2) (c := k23c2) (by decide +kernel) rfl rfl rfl (by decide +kernel)
theorem w_c51 : (Jvm.Cond.code Yn49 jdk_41_method_11_code (3 : Nat) (Option.some Jvm.ClassFile.FieldType.int)).before args0 about1 = true := code_word (m := ⟨34, 1⟩) (meth := k34m1) (c := k34c1) (by decide +kernel) rfl rfl rfl (by decide +kernel)
theorem w_c52 : (Jvm.Cond.code Yn59 jdk_38_method_18_code (2 : Nat) (Option.some (Jvm.ClassFile.FieldType.object "java/lang/Object"))).before args0 about1 = true := code_word (m := ⟨18, 6⟩) (meth := k18m6) (c := k18c6) (by decide +kernel) rfl rfl rfl (by decide +kernel)
theorem w_c53 : (Jvm.Cond.code Yn78 jdk_42_method_76_code (2 : Nat) (Option.some Jvm.ClassFile.FieldType.boolean)).before args0 about1 = true := code_word (m := ⟨7, 5⟩) (meth := k7m5) (c := k7c5) (by decide +kernel) rfl rfl rfl (by decide +kernel)
theorem w_c54 : (Jvm.Cond.code Yn77 jdk_42_method_75_code (8 : Nat) (Option.some Jvm.ClassFile.FieldType.boolean)).before args0 about1 = true := code_word (m := ⟨7, 4⟩) (meth := k7m4) (c := k7c4) (by decide +kernel) rfl rfl rfl (by decide +kernel)
theorem w_c55 : (Jvm.Cond.code Yn3 jdk_42_method_54_code (1 : Nat) (Option.some Jvm.ClassFile.FieldType.int)).before args0 about1 = true := code_word (m := ⟨7, 2⟩) (meth := k7m2) (c := k7c2) (by decide +kernel) rfl rfl rfl (by decide +kernel)
theorem w_c56 : (Jvm.Cond.code Yn4 jdk_42_method_152_code (1 : Nat) (Option.some Jvm.ClassFile.FieldType.byte)).before args0 about1 = true := code_word (m := ⟨7, 14⟩) (meth := k7m14) (c := k7c14) (by decide +kernel) rfl rfl rfl (by decide +kernel)
theorem w_c57 : (Jvm.Cond.code Yn76 jdk_48_method_14_code (8 : Nat) (Option.some Jvm.ClassFile.FieldType.int)).before args0 about1 = true := code_word (m := ⟨35, 3⟩) (meth := k35m3) (c := k35c3) (by decide +kernel) rfl rfl rfl (by decide +kernel)
theorem w_c58 : (Jvm.Cond.code Yn85 jdk_42_method_79_code (2 : Nat) (Option.some Jvm.ClassFile.FieldType.int)).before args0 about1 = true := code_word (m := ⟨7, 7⟩) (meth := k7m7) (c := k7c7) (by decide +kernel) rfl rfl rfl (by decide +kernel)
theorem w_c59 : (Jvm.Cond.code Yn84 jdk_42_method_80_code (3 : Nat) (Option.some Jvm.ClassFile.FieldType.int)).before args0 about1 = true := code_word (m := ⟨7, 8⟩) (meth := k7m8) (c := k7c8) (by decide +kernel) rfl rfl rfl (by decide +kernel)
theorem w_c60 : (Jvm.Cond.code Yn5 jdk_42_method_154_code (1 : Nat) (Option.some Jvm.ClassFile.FieldType.boolean)).before args0 about1 = true := code_word (m := ⟨7, 15⟩) (meth := k7m15) (c := k7c15) (by decide +kernel) rfl rfl rfl (by decide +kernel)
theorem w_c61 : (Jvm.Cond.code Yn81 jdk_43_method_22_code (4 : Nat) (Option.some Jvm.ClassFile.FieldType.int)).before args0 about1 = true := code_word (m := ⟨8, 5⟩) (meth := k8m5) (c := k8c5) (by decide +kernel) rfl rfl rfl (by decide +kernel)
theorem w_c62 : (Jvm.Cond.code Yn79 jdk_43_method_4_code (1 : Nat) (Option.some Jvm.ClassFile.FieldType.boolean)).before args0 about1 = true := code_word (m := ⟨8, 2⟩) (meth := k8m2) (c := k8c2) (by decide +kernel) rfl rfl rfl (by decide +kernel)
theorem w_c63 : (Jvm.Cond.code Yn30 jdk_29_method_69_code (2 : Nat) (Option.some Jvm.ClassFile.FieldType.int)).before args0 about1 = true := code_word (m := ⟨33, 2⟩) (meth := k33m2) (c := k33c2) (by decide +kernel) rfl rfl rfl (by decide +kernel)
theorem w_c64 : (Jvm.Cond.code Yn80 jdk_43_method_23_code (6 : Nat) (Option.some Jvm.ClassFile.FieldType.int)).before args0 about1 = true := code_word (m := ⟨8, 6⟩) (meth := k8m6) (c := k8c6) (by decide +kernel) rfl rfl rfl (by decide +kernel)
theorem w_c65 : (Jvm.Cond.code Yn6 jdk_42_method_92_code (5 : Nat) (Option.some (Jvm.ClassFile.FieldType.object "java/lang/String"))).before args0 about1 = true := code_word (m := ⟨7, 10⟩) (meth := k7m10) (c := k7c10) (by decide +kernel) rfl rfl rfl (by decide +kernel)
theorem w_c66 : (Jvm.Cond.code Yn83 jdk_42_method_158_code (3 : Nat) (Option.none : Option Jvm.ClassFile.FieldType)).before args0 about1 = true := code_word (m := ⟨7, 16⟩) (meth := k7m16) (c := k7c16) (by decide +kernel) rfl rfl rfl (by decide +kernel)
theorem w_c67 : (Jvm.Cond.code Yn82 jdk_41_method_12_code (4 : Nat) (Option.some Jvm.ClassFile.FieldType.int)).before args0 about1 = true := code_word (m := ⟨34, 2⟩) (meth := k34m2) (c := k34c2) (by decide +kernel) rfl rfl rfl (by decide +kernel)
theorem w_c68 : (Jvm.Cond.code Yn87 jdk_43_method_47_code (3 : Nat) (Option.some (Jvm.ClassFile.FieldType.object "java/lang/String"))).before args0 about1 = true := code_word (m := ⟨8, 8⟩) (meth := k8m8) (c := k8c8) (by decide +kernel) rfl rfl rfl (by decide +kernel)
theorem w_c69 : (Jvm.Cond.code Yn86 jdk_65_method_132_code (3 : Nat) (Option.some (Jvm.ClassFile.FieldType.array Jvm.ClassFile.FieldType.byte))).before args0 about1 = true := code_word (m := ⟨36, 4⟩) (meth := k36m4) (c := k36c4) (by decide +kernel) rfl rfl rfl (by decide +kernel)
theorem w_c70 : (Jvm.Cond.code Yn31 jdk_65_method_133_code (5 : Nat) (Option.some (Jvm.ClassFile.FieldType.array Jvm.ClassFile.FieldType.byte))).before args0 about1 = true := code_word (m := ⟨36, 5⟩) (meth := k36m5) (c := k36c5) (by decide +kernel) rfl rfl rfl (by decide +kernel)
theorem w_c71 : (Jvm.Cond.code Yn32 jdk_65_method_131_code (2 : Nat) (Option.none : Option Jvm.ClassFile.FieldType)).before args0 about1 = true := code_word (m := ⟨36, 3⟩) (meth := k36m3) (c := k36c3) (by decide +kernel) rfl rfl rfl (by decide +kernel)
theorem w_c72 : (Jvm.Cond.code Yn72 jdk_101_method_5_code (2 : Nat) (Option.some Jvm.ClassFile.FieldType.boolean)).before args0 about1 = true := code_word (m := ⟨22, 1⟩) (meth := k22m1) (c := k22c1) (by decide +kernel) rfl rfl rfl (by decide +kernel)
theorem w_c73 : (Jvm.Cond.code Yn88 jdk_42_method_91_code (2 : Nat) (Option.some (Jvm.ClassFile.FieldType.object "java/lang/String"))).before args0 about1 = true := code_word (m := ⟨7, 9⟩) (meth := k7m9) (c := k7c9) (by decide +kernel) rfl rfl rfl (by decide +kernel)
theorem w_c74 : (Jvm.Cond.code Yn66 jdk_69_method_15_code (3 : Nat) (Option.some (Jvm.ClassFile.FieldType.object "java/lang/Object"))).before args0 about1 = true := code_word (m := ⟨27, 4⟩) (meth := k27m4) (c := k27c4) (by decide +kernel) rfl rfl rfl (by decide +kernel)
theorem w_c75 : (Jvm.Cond.code Yn33 jdk_69_method_1_code (2 : Nat) (Option.some Jvm.ClassFile.FieldType.int)).before args0 about1 = true := code_word (m := ⟨27, 0⟩) (meth := k27m0) (c := k27c0) (by decide +kernel) rfl rfl rfl (by decide +kernel)
theorem w_c76 : (Jvm.Cond.code Yn56 jdk_42_method_78_code (2 : Nat) (Option.some Jvm.ClassFile.FieldType.int)).before args0 about1 = true := code_word (m := ⟨7, 6⟩) (meth := k7m6) (c := k7c6) (by decide +kernel) rfl rfl rfl (by decide +kernel)
theorem w_c77 : (Jvm.Cond.code Yn55 jdk_43_method_21_code (1 : Nat) (Option.some Jvm.ClassFile.FieldType.int)).before args0 about1 = true := code_word (m := ⟨8, 4⟩) (meth := k8m4) (c := k8c4) (by decide +kernel) rfl rfl rfl (by decide +kernel)
theorem w_c78 : (Jvm.Cond.code Yn54 jdk_48_method_4_code (5 : Nat) (Option.some Jvm.ClassFile.FieldType.int)).before args0 about1 = true := code_word (m := ⟨35, 1⟩) (meth := k35m1) (c := k35c1) (by decide +kernel) rfl rfl rfl (by decide +kernel)
theorem w_c79 : (Jvm.Cond.code Yn53 jdk_48_method_5_code (6 : Nat) (Option.some Jvm.ClassFile.FieldType.int)).before args0 about1 = true := code_word (m := ⟨35, 2⟩) (meth := k35m2) (c := k35c2) (by decide +kernel) rfl rfl rfl (by decide +kernel)
theorem w_c80 : (Jvm.Cond.code Yn65 jdk_69_method_16_code (13 : Nat) (Option.some (Jvm.ClassFile.FieldType.object "java/lang/Object"))).before args0 about1 = true := code_word (m := ⟨27, 5⟩) (meth := k27m5) (c := k27c5) (by decide +kernel) rfl rfl rfl (by decide +kernel)
theorem w_c81 : (Jvm.Cond.code Yn63 jdk_69_method_17_code (14 : Nat) (Option.some (Jvm.ClassFile.FieldType.array (Jvm.ClassFile.FieldType.object "java/util/HashMap$Node")))).before args0 about1 = true := code_word (m := ⟨27, 6⟩) (meth := k27m6) (c := k27c6) (by decide +kernel) rfl rfl rfl (by decide +kernel)
theorem w_c82 : (Jvm.Cond.code Yn62 jdk_69_method_46_code (5 : Nat) (Option.some (Jvm.ClassFile.FieldType.object "java/util/HashMap$Node"))).before args0 about1 = true := code_word (m := ⟨27, 7⟩) (meth := k27m7) (c := k27c7) (by decide +kernel) rfl rfl rfl (by decide +kernel)
theorem w_c83 : (Jvm.Cond.code Yn61 jdk_70_method_1_code (5 : Nat) (Option.none : Option Jvm.ClassFile.FieldType)).before args0 about1 = true := code_word (m := ⟨39, 0⟩) (meth := k39m0) (c := k39c0) (by decide +kernel) rfl rfl rfl (by decide +kernel)
theorem w_c84 : (Jvm.Cond.code Yn64 jdk_69_method_52_code (2 : Nat) (Option.none : Option Jvm.ClassFile.FieldType)).before args0 about1 = true := code_word (m := ⟨27, 8⟩) (meth := k27m8) (c := k27c8) (by decide +kernel) rfl rfl rfl (by decide +kernel)
theorem w_c85 : (Jvm.Cond.code Yn98 jdk_38_method_16_code (1 : Nat) (Option.some (Jvm.ClassFile.FieldType.array (Jvm.ClassFile.FieldType.object "java/lang/Object")))).before args0 about1 = true := code_word (m := ⟨18, 5⟩) (meth := k18m5) (c := k18c5) (by decide +kernel) rfl rfl rfl (by decide +kernel)
theorem w_c86 : (Jvm.Cond.code Yn97 jdk_65_method_119_code (2 : Nat) (Option.some (Jvm.ClassFile.FieldType.array (Jvm.ClassFile.FieldType.object "java/lang/Object")))).before args0 about1 = true := code_word (m := ⟨36, 1⟩) (meth := k36m1) (c := k36c1) (by decide +kernel) rfl rfl rfl (by decide +kernel)
theorem w_c87 : (Jvm.Cond.code Yn96 jdk_65_method_120_code (4 : Nat) (Option.some (Jvm.ClassFile.FieldType.array (Jvm.ClassFile.FieldType.object "java/lang/Object")))).before args0 about1 = true := code_word (m := ⟨36, 2⟩) (meth := k36m2) (c := k36c2) (by decide +kernel) rfl rfl rfl (by decide +kernel)
theorem w_c88 : (Jvm.Cond.code Yn95 jdk_40_method_47_code (2 : Nat) (Option.some (Jvm.ClassFile.FieldType.object "java/util/List"))).before args0 about1 = true := code_word (m := ⟨14, 4⟩) (meth := k14m4) (c := k14c4) (by decide +kernel) rfl rfl rfl (by decide +kernel)
theorem w_c89 : (Jvm.Cond.code Yn94 jdk_56_method_4_code (3 : Nat) (Option.some (Jvm.ClassFile.FieldType.object "java/util/List"))).before args0 about1 = true := code_word (m := ⟨28, 2⟩) (meth := k28m2) (c := k28c2) (by decide +kernel) rfl rfl rfl (by decide +kernel)
theorem w_c90 : (Jvm.Cond.code Yn93 jdk_45_method_1_code (3 : Nat) (Option.none : Option Jvm.ClassFile.FieldType)).before args0 about1 = true := code_word (m := ⟨31, 0⟩) (meth := k31m0) (c := k31c0) (by decide +kernel) rfl rfl rfl (by decide +kernel)
theorem w_c91 : (Jvm.Cond.code Yn34 jdk_46_method_1_code (1 : Nat) (Option.none : Option Jvm.ClassFile.FieldType)).before args0 about1 = true := code_word (m := ⟨29, 0⟩) (meth := k29m0) (c := k29c0) (by decide +kernel) rfl rfl rfl (by decide +kernel)
theorem w_c92 : (Jvm.Cond.code Yn13 jdk_45_method_4_code (2 : Nat) (Option.some (Jvm.ClassFile.FieldType.object "java/lang/Object"))).before args0 about1 = true := code_word (m := ⟨31, 2⟩) (meth := k31m2) (c := k31c2) (by decide +kernel) rfl rfl rfl (by decide +kernel)
theorem w_c93 : (Jvm.Cond.code Yn104 prog_1_method_7_code (3 : Nat) (Option.some (Jvm.ClassFile.FieldType.object "java/lang/String"))).before args0 about1 = true := code_word (m := ⟨24, 5⟩) (meth := k24m5) (c := k24c5) (by decide +kernel) rfl rfl rfl (by decide +kernel)
theorem w_c94 : (Jvm.Cond.code Yn73 jdk_32_method_2_code (2 : Nat) (Option.none : Option Jvm.ClassFile.FieldType)).before args0 about1 = true := code_word (m := ⟨32, 0⟩) (meth := k32m0) (c := k32c0) (by decide +kernel) rfl rfl rfl (by decide +kernel)
theorem w_c95 : (Jvm.Cond.code Yn75 jdk_32_method_18_code (2 : Nat) (Option.some (Jvm.ClassFile.FieldType.object "java/lang/Object"))).before args0 about1 = true := code_word (m := ⟨32, 3⟩) (meth := k32m3) (c := k32c3) (by decide +kernel) rfl rfl rfl (by decide +kernel)
theorem w_c96 : (Jvm.Cond.code Yn92 jdk_44_method_2_code (3 : Nat) (Option.none : Option Jvm.ClassFile.FieldType)).before args0 about1 = true := code_word (m := ⟨30, 1⟩) (meth := k30m1) (c := k30c1) (by decide +kernel) rfl rfl rfl (by decide +kernel)
theorem w_c97 : (Jvm.Cond.code Yn14 jdk_44_method_3_code (1 : Nat) (Option.some Jvm.ClassFile.FieldType.int)).before args0 about1 = true := code_word (m := ⟨30, 2⟩) (meth := k30m2) (c := k30c2) (by decide +kernel) rfl rfl rfl (by decide +kernel)
theorem w_c98 : (Jvm.Cond.code Yn15 jdk_44_method_5_code (2 : Nat) (Option.some (Jvm.ClassFile.FieldType.object "java/lang/Object"))).before args0 about1 = true := code_word (m := ⟨30, 3⟩) (meth := k30m3) (c := k30c3) (by decide +kernel) rfl rfl rfl (by decide +kernel)
theorem w_c99 : (Jvm.Cond.code Yn91 jdk_44_method_1_code (2 : Nat) (Option.none : Option Jvm.ClassFile.FieldType)).before args0 about1 = true := code_word (m := ⟨30, 0⟩) (meth := k30m0) (c := k30c0) (by decide +kernel) rfl rfl rfl (by decide +kernel)
def codes1 : List Jvm.Cond := [Jvm.Cond.code x code maxLocals ret, Jvm.Cond.code Yn52 jdk_42_method_139_code (1 : Nat) (Option.some (Jvm.ClassFile.FieldType.object "java/lang/String")), Jvm.Cond.code Yn50 jdk_43_method_3_code (1 : Nat) (Option.some Jvm.ClassFile.FieldType.boolean), Jvm.Cond.code Yn51 jdk_43_method_46_code (1 : Nat) (Option.some (Jvm.ClassFile.FieldType.array Jvm.ClassFile.FieldType.byte)), Jvm.Cond.code Yn35 jdk_42_method_151_code (3 : Nat) (Option.none : Option Jvm.ClassFile.FieldType), Jvm.Cond.code Yn36 object_method_1_code (1 : Nat) (Option.none : Option Jvm.ClassFile.FieldType), Jvm.Cond.code Yn16 jdk_42_method_3_code (2 : Nat) (Option.none : Option Jvm.ClassFile.FieldType), Jvm.Cond.code Yn17 jdk_42_method_149_code (6 : Nat) (Option.none : Option Jvm.ClassFile.FieldType), Jvm.Cond.code Yn18 jdk_52_method_16_code (6 : Nat) (Option.some (Jvm.ClassFile.FieldType.array Jvm.ClassFile.FieldType.byte)), Jvm.Cond.code Yn19 jdk_52_method_21_code (7 : Nat) (Option.some Jvm.ClassFile.FieldType.int), Jvm.Cond.code Yn20 jdk_52_method_15_code (2 : Nat) (Option.some Jvm.ClassFile.FieldType.byte), Jvm.Cond.code Yn21 method_5_code (6 : Nat) (Option.some (Jvm.ClassFile.FieldType.object "java/lang/String")), Jvm.Cond.code Yn22 method_2_code (1 : Nat) (Option.some Jvm.ClassFile.FieldType.int), Jvm.Cond.code Yn23 method_3_code (1 : Nat) (Option.some Jvm.ClassFile.FieldType.boolean), Jvm.Cond.code Yn24 method_4_code (1 : Nat) (Option.some Jvm.ClassFile.FieldType.int), Jvm.Cond.code Yn37 jdk_38_method_2_code (1 : Nat) (Option.none : Option Jvm.ClassFile.FieldType), Jvm.Cond.code Yn57 jdk_39_method_1_code (1 : Nat) (Option.none : Option Jvm.ClassFile.FieldType), Jvm.Cond.code Yn38 jdk_22_method_1_code (1 : Nat) (Option.none : Option Jvm.ClassFile.FieldType), Jvm.Cond.code Yn71 jdk_96_method_19_code (2 : Nat) (Option.some (Jvm.ClassFile.FieldType.object "java/util/Set")), Jvm.Cond.code Yn70 jdk_101_method_2_code (3 : Nat) (Option.none : Option Jvm.ClassFile.FieldType), Jvm.Cond.code Yn69 jdk_100_method_1_code (1 : Nat) (Option.none : Option Jvm.ClassFile.FieldType), Jvm.Cond.code Yn39 jdk_47_method_1_code (1 : Nat) (Option.none : Option Jvm.ClassFile.FieldType), Jvm.Cond.code Yn7 jdk_31_method_10_code (1 : Nat) (Option.some (Jvm.ClassFile.FieldType.object "java/lang/Object")), Jvm.Cond.code Yn0 jdk_42_method_66_code (3 : Nat) (Option.some Jvm.ClassFile.FieldType.boolean), Jvm.Cond.code Yn48 jdk_43_method_13_code (3 : Nat) (Option.some Jvm.ClassFile.FieldType.boolean), Jvm.Cond.code Yn90 prog_1_method_2_code (8 : Nat) (Option.some (Jvm.ClassFile.FieldType.object "com/example/hand_balancer/handbalancer/cli/Arguments")), Jvm.Cond.code Yn89 prog_1_method_1_code (1 : Nat) (Option.none : Option Jvm.ClassFile.FieldType), Jvm.Cond.code Yn68 jdk_69_method_7_code (1 : Nat) (Option.none : Option Jvm.ClassFile.FieldType), Jvm.Cond.code Yn67 jdk_71_method_1_code (1 : Nat) (Option.none : Option Jvm.ClassFile.FieldType), Jvm.Cond.code Yn8 jdk_38_method_8_code (1 : Nat) (Option.some Jvm.ClassFile.FieldType.int), Jvm.Cond.code Yn102 prog_1_method_3_code (3 : Nat) (Option.some (Jvm.ClassFile.FieldType.object "java/util/List")), Jvm.Cond.code Yn101 jdk_40_method_48_code (1 : Nat) (Option.some (Jvm.ClassFile.FieldType.object "java/util/List")), Jvm.Cond.code Yn100 jdk_56_method_3_code (2 : Nat) (Option.some (Jvm.ClassFile.FieldType.object "java/util/List")), Jvm.Cond.code Yn60 jdk_38_method_9_code (1 : Nat) (Option.some Jvm.ClassFile.FieldType.boolean), Jvm.Cond.code Yn99 jdk_40_method_36_code (0 : Nat) (Option.some (Jvm.ClassFile.FieldType.object "java/util/List")), Jvm.Cond.code Yn9 jdk_45_method_3_code (1 : Nat) (Option.some Jvm.ClassFile.FieldType.int), Jvm.Cond.code Yn26 method_7_code (4 : Nat) (Option.some Jvm.ClassFile.FieldType.boolean), Jvm.Cond.code Yn103 prog_1_method_6_code (7 : Nat) (Option.some (Jvm.ClassFile.FieldType.object "java/time/Duration")), Jvm.Cond.code Yn1 prog_1_method_5_code (2 : Nat) (Option.some (Jvm.ClassFile.FieldType.object "java/util/Optional")), Jvm.Cond.code Yn10 jdk_69_method_12_code (3 : Nat) (Option.some (Jvm.ClassFile.FieldType.object "java/lang/Object")), Jvm.Cond.code Yn2 jdk_69_method_13_code (8 : Nat) (Option.some (Jvm.ClassFile.FieldType.object "java/util/HashMap$Node")), Jvm.Cond.code Yn27 jdk_32_method_4_code (1 : Nat) (Option.some (Jvm.ClassFile.FieldType.object "java/util/Optional")), Jvm.Cond.code Yn74 jdk_32_method_7_code (1 : Nat) (Option.some Jvm.ClassFile.FieldType.boolean), Jvm.Cond.code Yn11 jdk_38_method_25_code (2 : Nat) (Option.some Jvm.ClassFile.FieldType.boolean), Jvm.Cond.code Yn40 jdk_38_method_24_code (4 : Nat) (Option.none : Option Jvm.ClassFile.FieldType), Jvm.Cond.code Yn41 jdk_38_method_7_code (1 : Nat) (Option.some (Jvm.ClassFile.FieldType.array (Jvm.ClassFile.FieldType.object "java/lang/Object"))), Jvm.Cond.code Yn42 jdk_38_method_6_code (4 : Nat) (Option.some (Jvm.ClassFile.FieldType.array (Jvm.ClassFile.FieldType.object "java/lang/Object"))), Jvm.Cond.code Yn43 jdk_29_method_65_code (2 : Nat) (Option.some Jvm.ClassFile.FieldType.int), Jvm.Cond.code Yn28 method_6_code (9 : Nat) (Option.some (Jvm.ClassFile.FieldType.object "java/lang/String")), Jvm.Cond.code Yn12 jdk_38_method_20_code (2 : Nat) (Option.some (Jvm.ClassFile.FieldType.object "java/lang/Object")), Jvm.Cond.code Yn58 jdk_31_method_17_code (2 : Nat) (Option.some Jvm.ClassFile.FieldType.int), Jvm.Cond.code Yn49 jdk_41_method_11_code (3 : Nat) (Option.some Jvm.ClassFile.FieldType.int), Jvm.Cond.code Yn59 jdk_38_method_18_code (2 : Nat) (Option.some (Jvm.ClassFile.FieldType.object "java/lang/Object")), Jvm.Cond.code Yn78 jdk_42_method_76_code (2 : Nat) (Option.some Jvm.ClassFile.FieldType.boolean), Jvm.Cond.code Yn77 jdk_42_method_75_code (8 : Nat) (Option.some Jvm.ClassFile.FieldType.boolean), Jvm.Cond.code Yn3 jdk_42_method_54_code (1 : Nat) (Option.some Jvm.ClassFile.FieldType.int), Jvm.Cond.code Yn4 jdk_42_method_152_code (1 : Nat) (Option.some Jvm.ClassFile.FieldType.byte), Jvm.Cond.code Yn76 jdk_48_method_14_code (8 : Nat) (Option.some Jvm.ClassFile.FieldType.int), Jvm.Cond.code Yn85 jdk_42_method_79_code (2 : Nat) (Option.some Jvm.ClassFile.FieldType.int), Jvm.Cond.code Yn84 jdk_42_method_80_code (3 : Nat) (Option.some Jvm.ClassFile.FieldType.int), Jvm.Cond.code Yn5 jdk_42_method_154_code (1 : Nat) (Option.some Jvm.ClassFile.FieldType.boolean), Jvm.Cond.code Yn81 jdk_43_method_22_code (4 : Nat) (Option.some Jvm.ClassFile.FieldType.int), Jvm.Cond.code Yn79 jdk_43_method_4_code (1 : Nat) (Option.some Jvm.ClassFile.FieldType.boolean), Jvm.Cond.code Yn30 jdk_29_method_69_code (2 : Nat) (Option.some Jvm.ClassFile.FieldType.int), Jvm.Cond.code Yn80 jdk_43_method_23_code (6 : Nat) (Option.some Jvm.ClassFile.FieldType.int), Jvm.Cond.code Yn6 jdk_42_method_92_code (5 : Nat) (Option.some (Jvm.ClassFile.FieldType.object "java/lang/String")), Jvm.Cond.code Yn83 jdk_42_method_158_code (3 : Nat) (Option.none : Option Jvm.ClassFile.FieldType), Jvm.Cond.code Yn82 jdk_41_method_12_code (4 : Nat) (Option.some Jvm.ClassFile.FieldType.int), Jvm.Cond.code Yn87 jdk_43_method_47_code (3 : Nat) (Option.some (Jvm.ClassFile.FieldType.object "java/lang/String")), Jvm.Cond.code Yn86 jdk_65_method_132_code (3 : Nat) (Option.some (Jvm.ClassFile.FieldType.array Jvm.ClassFile.FieldType.byte)), Jvm.Cond.code Yn31 jdk_65_method_133_code (5 : Nat) (Option.some (Jvm.ClassFile.FieldType.array Jvm.ClassFile.FieldType.byte)), Jvm.Cond.code Yn32 jdk_65_method_131_code (2 : Nat) (Option.none : Option Jvm.ClassFile.FieldType), Jvm.Cond.code Yn72 jdk_101_method_5_code (2 : Nat) (Option.some Jvm.ClassFile.FieldType.boolean), Jvm.Cond.code Yn88 jdk_42_method_91_code (2 : Nat) (Option.some (Jvm.ClassFile.FieldType.object "java/lang/String")), Jvm.Cond.code Yn66 jdk_69_method_15_code (3 : Nat) (Option.some (Jvm.ClassFile.FieldType.object "java/lang/Object")), Jvm.Cond.code Yn33 jdk_69_method_1_code (2 : Nat) (Option.some Jvm.ClassFile.FieldType.int), Jvm.Cond.code Yn56 jdk_42_method_78_code (2 : Nat) (Option.some Jvm.ClassFile.FieldType.int), Jvm.Cond.code Yn55 jdk_43_method_21_code (1 : Nat) (Option.some Jvm.ClassFile.FieldType.int), Jvm.Cond.code Yn54 jdk_48_method_4_code (5 : Nat) (Option.some Jvm.ClassFile.FieldType.int), Jvm.Cond.code Yn53 jdk_48_method_5_code (6 : Nat) (Option.some Jvm.ClassFile.FieldType.int), Jvm.Cond.code Yn65 jdk_69_method_16_code (13 : Nat) (Option.some (Jvm.ClassFile.FieldType.object "java/lang/Object")), Jvm.Cond.code Yn63 jdk_69_method_17_code (14 : Nat) (Option.some (Jvm.ClassFile.FieldType.array (Jvm.ClassFile.FieldType.object "java/util/HashMap$Node"))), Jvm.Cond.code Yn62 jdk_69_method_46_code (5 : Nat) (Option.some (Jvm.ClassFile.FieldType.object "java/util/HashMap$Node")), Jvm.Cond.code Yn61 jdk_70_method_1_code (5 : Nat) (Option.none : Option Jvm.ClassFile.FieldType), Jvm.Cond.code Yn64 jdk_69_method_52_code (2 : Nat) (Option.none : Option Jvm.ClassFile.FieldType), Jvm.Cond.code Yn98 jdk_38_method_16_code (1 : Nat) (Option.some (Jvm.ClassFile.FieldType.array (Jvm.ClassFile.FieldType.object "java/lang/Object"))), Jvm.Cond.code Yn97 jdk_65_method_119_code (2 : Nat) (Option.some (Jvm.ClassFile.FieldType.array (Jvm.ClassFile.FieldType.object "java/lang/Object"))), Jvm.Cond.code Yn96 jdk_65_method_120_code (4 : Nat) (Option.some (Jvm.ClassFile.FieldType.array (Jvm.ClassFile.FieldType.object "java/lang/Object"))), Jvm.Cond.code Yn95 jdk_40_method_47_code (2 : Nat) (Option.some (Jvm.ClassFile.FieldType.object "java/util/List")), Jvm.Cond.code Yn94 jdk_56_method_4_code (3 : Nat) (Option.some (Jvm.ClassFile.FieldType.object "java/util/List")), Jvm.Cond.code Yn93 jdk_45_method_1_code (3 : Nat) (Option.none : Option Jvm.ClassFile.FieldType), Jvm.Cond.code Yn34 jdk_46_method_1_code (1 : Nat) (Option.none : Option Jvm.ClassFile.FieldType), Jvm.Cond.code Yn13 jdk_45_method_4_code (2 : Nat) (Option.some (Jvm.ClassFile.FieldType.object "java/lang/Object")), Jvm.Cond.code Yn104 prog_1_method_7_code (3 : Nat) (Option.some (Jvm.ClassFile.FieldType.object "java/lang/String")), Jvm.Cond.code Yn73 jdk_32_method_2_code (2 : Nat) (Option.none : Option Jvm.ClassFile.FieldType), Jvm.Cond.code Yn75 jdk_32_method_18_code (2 : Nat) (Option.some (Jvm.ClassFile.FieldType.object "java/lang/Object")), Jvm.Cond.code Yn92 jdk_44_method_2_code (3 : Nat) (Option.none : Option Jvm.ClassFile.FieldType), Jvm.Cond.code Yn14 jdk_44_method_3_code (1 : Nat) (Option.some Jvm.ClassFile.FieldType.int), Jvm.Cond.code Yn15 jdk_44_method_5_code (2 : Nat) (Option.some (Jvm.ClassFile.FieldType.object "java/lang/Object")), Jvm.Cond.code Yn91 jdk_44_method_1_code (2 : Nat) (Option.none : Option Jvm.ClassFile.FieldType)]
theorem codes_eq : words1.filter isCode = codes1 := rfl
theorem w_codes : ∀ c ∈ words1.filter isCode, c.before args0 about1 = true := by
  rw [codes_eq]
  intro c hc
  simp only [codes1, List.mem_cons, List.not_mem_nil, or_false] at hc
  rcases hc with rfl | rfl | rfl | rfl | rfl | rfl | rfl | rfl | rfl | rfl | rfl | rfl | rfl | rfl | rfl | rfl | rfl | rfl | rfl | rfl | rfl | rfl | rfl | rfl | rfl | rfl | rfl | rfl | rfl | rfl | rfl | rfl | rfl | rfl | rfl | rfl | rfl | rfl | rfl | rfl | rfl | rfl | rfl | rfl | rfl | rfl | rfl | rfl | rfl | rfl | rfl | rfl | rfl | rfl | rfl | rfl | rfl | rfl | rfl | rfl | rfl | rfl | rfl | rfl | rfl | rfl | rfl | rfl | rfl | rfl | rfl | rfl | rfl | rfl | rfl | rfl | rfl | rfl | rfl | rfl | rfl | rfl | rfl | rfl | rfl | rfl | rfl | rfl | rfl | rfl | rfl | rfl | rfl | rfl | rfl | rfl | rfl | rfl | rfl | rfl
  · exact w_c0
  · exact w_c1
  · exact w_c2
  · exact w_c3
  · exact w_c4
  · exact w_c5
  · exact w_c6
  · exact w_c7
  · exact w_c8
  · exact w_c9
  · exact w_c10
  · exact w_c11
  · exact w_c12
  · exact w_c13
  · exact w_c14
  · exact w_c15
  · exact w_c16
  · exact w_c17
  · exact w_c18
  · exact w_c19
  · exact w_c20
  · exact w_c21
  · exact w_c22
  · exact w_c23
  · exact w_c24
  · exact w_c25
  · exact w_c26
  · exact w_c27
  · exact w_c28
  · exact w_c29
  · exact w_c30
  · exact w_c31
  · exact w_c32
  · exact w_c33
  · exact w_c34
  · exact w_c35
  · exact w_c36
  · exact w_c37
  · exact w_c38
  · exact w_c39
  · exact w_c40
  · exact w_c41
  · exact w_c42
  · exact w_c43
  · exact w_c44
  · exact w_c45
  · exact w_c46
  · exact w_c47
  · exact w_c48
  · exact w_c49
  · exact w_c50
  · exact w_c51
  · exact w_c52
  · exact w_c53
  · exact w_c54
  · exact w_c55
  · exact w_c56
  · exact w_c57
  · exact w_c58
  · exact w_c59
  · exact w_c60
  · exact w_c61
  · exact w_c62
  · exact w_c63
  · exact w_c64
  · exact w_c65
  · exact w_c66
  · exact w_c67
  · exact w_c68
  · exact w_c69
  · exact w_c70
  · exact w_c71
  · exact w_c72
  · exact w_c73
  · exact w_c74
  · exact w_c75
  · exact w_c76
  · exact w_c77
  · exact w_c78
  · exact w_c79
  · exact w_c80
  · exact w_c81
  · exact w_c82
  · exact w_c83
  · exact w_c84
  · exact w_c85
  · exact w_c86
  · exact w_c87
  · exact w_c88
  · exact w_c89
  · exact w_c90
  · exact w_c91
  · exact w_c92
  · exact w_c93
  · exact w_c94
  · exact w_c95
  · exact w_c96
  · exact w_c97
  · exact w_c98
  · exact w_c99
theorem w_t1 : (words1.take 24).all (fun c => isCode c || c.before args0 about1) = true := by decide +kernel
theorem w_t2 : ((words1.drop 24).take 24).all (fun c => isCode c || c.before args0 about1) = true := by decide +kernel
theorem w_t3 : (((words1.drop 24).drop 24).take 24).all (fun c => isCode c || c.before args0 about1) = true := by decide +kernel
theorem w_t4 : ((((words1.drop 24).drop 24).drop 24).take 24).all (fun c => isCode c || c.before args0 about1) = true := by decide +kernel
theorem w_t5 : (((((words1.drop 24).drop 24).drop 24).drop 24).take 24).all (fun c => isCode c || c.before args0 about1) = true := by decide +kernel
theorem w_t6 : ((((((words1.drop 24).drop 24).drop 24).drop 24).drop 24).take 24).all (fun c => isCode c || c.before args0 about1) = true := by decide +kernel
theorem w_t7 : (((((((words1.drop 24).drop 24).drop 24).drop 24).drop 24).drop 24).take 24).all (fun c => isCode c || c.before args0 about1) = true := by decide +kernel
theorem w_t8 : ((((((((words1.drop 24).drop 24).drop 24).drop 24).drop 24).drop 24).drop 24).take 24).all (fun c => isCode c || c.before args0 about1) = true := by decide +kernel
theorem w_t9 : (((((((((words1.drop 24).drop 24).drop 24).drop 24).drop 24).drop 24).drop 24).drop 24).take 24).all (fun c => isCode c || c.before args0 about1) = true := by decide +kernel
theorem w_t10 : ((((((((((words1.drop 24).drop 24).drop 24).drop 24).drop 24).drop 24).drop 24).drop 24).drop 24).take 24).all (fun c => isCode c || c.before args0 about1) = true := by decide +kernel
theorem w_t11 : (((((((((((words1.drop 24).drop 24).drop 24).drop 24).drop 24).drop 24).drop 24).drop 24).drop 24).drop 24).take 24).all (fun c => isCode c || c.before args0 about1) = true := by decide +kernel
theorem w_t12 : ((((((((((((words1.drop 24).drop 24).drop 24).drop 24).drop 24).drop 24).drop 24).drop 24).drop 24).drop 24).drop 24).take 24).all (fun c => isCode c || c.before args0 about1) = true := by decide +kernel
theorem w_t13 : (((((((((((((words1.drop 24).drop 24).drop 24).drop 24).drop 24).drop 24).drop 24).drop 24).drop 24).drop 24).drop 24).drop 24).take 24).all (fun c => isCode c || c.before args0 about1) = true := by decide +kernel
theorem w_t14 : ((((((((((((((words1.drop 24).drop 24).drop 24).drop 24).drop 24).drop 24).drop 24).drop 24).drop 24).drop 24).drop 24).drop 24).drop 24).take 24).all (fun c => isCode c || c.before args0 about1) = true := by decide +kernel
theorem w_t15 : (((((((((((((((words1.drop 24).drop 24).drop 24).drop 24).drop 24).drop 24).drop 24).drop 24).drop 24).drop 24).drop 24).drop 24).drop 24).drop 24).take 24).all (fun c => isCode c || c.before args0 about1) = true := by decide +kernel
theorem w_t16 : ((((((((((((((((words1.drop 24).drop 24).drop 24).drop 24).drop 24).drop 24).drop 24).drop 24).drop 24).drop 24).drop 24).drop 24).drop 24).drop 24).drop 24).take 24).all (fun c => isCode c || c.before args0 about1) = true := by decide +kernel
theorem w_t17 : (((((((((((((((((words1.drop 24).drop 24).drop 24).drop 24).drop 24).drop 24).drop 24).drop 24).drop 24).drop 24).drop 24).drop 24).drop 24).drop 24).drop 24).drop 24).take 24).all (fun c => isCode c || c.before args0 about1) = true := by decide +kernel
theorem w_t18 : ((((((((((((((((((words1.drop 24).drop 24).drop 24).drop 24).drop 24).drop 24).drop 24).drop 24).drop 24).drop 24).drop 24).drop 24).drop 24).drop 24).drop 24).drop 24).drop 24).take 24).all (fun c => isCode c || c.before args0 about1) = true := by decide +kernel
theorem w_t19 : (((((((((((((((((((words1.drop 24).drop 24).drop 24).drop 24).drop 24).drop 24).drop 24).drop 24).drop 24).drop 24).drop 24).drop 24).drop 24).drop 24).drop 24).drop 24).drop 24).drop 24).take 24).all (fun c => isCode c || c.before args0 about1) = true := by decide +kernel
theorem w_t20 : ((((((((((((((((((((words1.drop 24).drop 24).drop 24).drop 24).drop 24).drop 24).drop 24).drop 24).drop 24).drop 24).drop 24).drop 24).drop 24).drop 24).drop 24).drop 24).drop 24).drop 24).drop 24).take 24).all (fun c => isCode c || c.before args0 about1) = true := by decide +kernel
theorem w_t21 : (((((((((((((((((((((words1.drop 24).drop 24).drop 24).drop 24).drop 24).drop 24).drop 24).drop 24).drop 24).drop 24).drop 24).drop 24).drop 24).drop 24).drop 24).drop 24).drop 24).drop 24).drop 24).drop 24).take 24).all (fun c => isCode c || c.before args0 about1) = true := by decide +kernel
theorem w_t22 : ((((((((((((((((((((((words1.drop 24).drop 24).drop 24).drop 24).drop 24).drop 24).drop 24).drop 24).drop 24).drop 24).drop 24).drop 24).drop 24).drop 24).drop 24).drop 24).drop 24).drop 24).drop 24).drop 24).drop 24).take 24).all (fun c => isCode c || c.before args0 about1) = true := by decide +kernel
theorem w_t23 : (((((((((((((((((((((((words1.drop 24).drop 24).drop 24).drop 24).drop 24).drop 24).drop 24).drop 24).drop 24).drop 24).drop 24).drop 24).drop 24).drop 24).drop 24).drop 24).drop 24).drop 24).drop 24).drop 24).drop 24).drop 24).take 24).all (fun c => isCode c || c.before args0 about1) = true := by decide +kernel
theorem w_t24 : ((((((((((((((((((((((((words1.drop 24).drop 24).drop 24).drop 24).drop 24).drop 24).drop 24).drop 24).drop 24).drop 24).drop 24).drop 24).drop 24).drop 24).drop 24).drop 24).drop 24).drop 24).drop 24).drop 24).drop 24).drop 24).drop 24).take 24).all (fun c => isCode c || c.before args0 about1) = true := by decide +kernel
theorem w_t25 : (((((((((((((((((((((((((words1.drop 24).drop 24).drop 24).drop 24).drop 24).drop 24).drop 24).drop 24).drop 24).drop 24).drop 24).drop 24).drop 24).drop 24).drop 24).drop 24).drop 24).drop 24).drop 24).drop 24).drop 24).drop 24).drop 24).drop 24).take 24).all (fun c => isCode c || c.before args0 about1) = true := by decide +kernel
theorem w_t26 : (((((((((((((((((((((((((words1.drop 24).drop 24).drop 24).drop 24).drop 24).drop 24).drop 24).drop 24).drop 24).drop 24).drop 24).drop 24).drop 24).drop 24).drop 24).drop 24).drop 24).drop 24).drop 24).drop 24).drop 24).drop 24).drop 24).drop 24).drop 24).all (fun c => isCode c || c.before args0 about1) = true := by decide +kernel
theorem w_tables : (allAtoms (Jvm.Cond.code x code maxLocals ret :: tables_1)).before args0 about1 = true := by
  rw [allAtoms_all]
  show words1.all (fun c => c.before args0 about1) = true
  refine all_split ?_ w_codes
  rw [← List.take_append_drop 24 words1, List.all_append, w_t1, ← List.take_append_drop 24 (words1.drop 24), List.all_append, w_t2, ← List.take_append_drop 24 ((words1.drop 24).drop 24), List.all_append, w_t3, ← List.take_append_drop 24 (((words1.drop 24).drop 24).drop 24), List.all_append, w_t4, ← List.take_append_drop 24 ((((words1.drop 24).drop 24).drop 24).drop 24), List.all_append, w_t5, ← List.take_append_drop 24 (((((words1.drop 24).drop 24).drop 24).drop 24).drop 24), List.all_append, w_t6, ← List.take_append_drop 24 ((((((words1.drop 24).drop 24).drop 24).drop 24).drop 24).drop 24), List.all_append, w_t7, ← List.take_append_drop 24 (((((((words1.drop 24).drop 24).drop 24).drop 24).drop 24).drop 24).drop 24), List.all_append, w_t8, ← List.take_append_drop 24 ((((((((words1.drop 24).drop 24).drop 24).drop 24).drop 24).drop 24).drop 24).drop 24), List.all_append, w_t9, ← List.take_append_drop 24 (((((((((words1.drop 24).drop 24).drop 24).drop 24).drop 24).drop 24).drop 24).drop 24).drop 24), List.all_append, w_t10, ← List.take_append_drop 24 ((((((((((words1.drop 24).drop 24).drop 24).drop 24).drop 24).drop 24).drop 24).drop 24).drop 24).drop 24), List.all_append, w_t11, ← List.take_append_drop 24 (((((((((((words1.drop 24).drop 24).drop 24).drop 24).drop 24).drop 24).drop 24).drop 24).drop 24).drop 24).drop 24), List.all_append, w_t12, ← List.take_append_drop 24 ((((((((((((words1.drop 24).drop 24).drop 24).drop 24).drop 24).drop 24).drop 24).drop 24).drop 24).drop 24).drop 24).drop 24), List.all_append, w_t13, ← List.take_append_drop 24 (((((((((((((words1.drop 24).drop 24).drop 24).drop 24).drop 24).drop 24).drop 24).drop 24).drop 24).drop 24).drop 24).drop 24).drop 24), List.all_append, w_t14, ← List.take_append_drop 24 ((((((((((((((words1.drop 24).drop 24).drop 24).drop 24).drop 24).drop 24).drop 24).drop 24).drop 24).drop 24).drop 24).drop 24).drop 24).drop 24), List.all_append, w_t15, ← List.take_append_drop 24 (((((((((((((((words1.drop 24).drop 24).drop 24).drop 24).drop 24).drop 24).drop 24).drop 24).drop 24).drop 24).drop 24).drop 24).drop 24).drop 24).drop 24), List.all_append, w_t16, ← List.take_append_drop 24 ((((((((((((((((words1.drop 24).drop 24).drop 24).drop 24).drop 24).drop 24).drop 24).drop 24).drop 24).drop 24).drop 24).drop 24).drop 24).drop 24).drop 24).drop 24), List.all_append, w_t17, ← List.take_append_drop 24 (((((((((((((((((words1.drop 24).drop 24).drop 24).drop 24).drop 24).drop 24).drop 24).drop 24).drop 24).drop 24).drop 24).drop 24).drop 24).drop 24).drop 24).drop 24).drop 24), List.all_append, w_t18, ← List.take_append_drop 24 ((((((((((((((((((words1.drop 24).drop 24).drop 24).drop 24).drop 24).drop 24).drop 24).drop 24).drop 24).drop 24).drop 24).drop 24).drop 24).drop 24).drop 24).drop 24).drop 24).drop 24), List.all_append, w_t19, ← List.take_append_drop 24 (((((((((((((((((((words1.drop 24).drop 24).drop 24).drop 24).drop 24).drop 24).drop 24).drop 24).drop 24).drop 24).drop 24).drop 24).drop 24).drop 24).drop 24).drop 24).drop 24).drop 24).drop 24), List.all_append, w_t20, ← List.take_append_drop 24 ((((((((((((((((((((words1.drop 24).drop 24).drop 24).drop 24).drop 24).drop 24).drop 24).drop 24).drop 24).drop 24).drop 24).drop 24).drop 24).drop 24).drop 24).drop 24).drop 24).drop 24).drop 24).drop 24), List.all_append, w_t21, ← List.take_append_drop 24 (((((((((((((((((((((words1.drop 24).drop 24).drop 24).drop 24).drop 24).drop 24).drop 24).drop 24).drop 24).drop 24).drop 24).drop 24).drop 24).drop 24).drop 24).drop 24).drop 24).drop 24).drop 24).drop 24).drop 24), List.all_append, w_t22, ← List.take_append_drop 24 ((((((((((((((((((((((words1.drop 24).drop 24).drop 24).drop 24).drop 24).drop 24).drop 24).drop 24).drop 24).drop 24).drop 24).drop 24).drop 24).drop 24).drop 24).drop 24).drop 24).drop 24).drop 24).drop 24).drop 24).drop 24), List.all_append, w_t23, ← List.take_append_drop 24 (((((((((((((((((((((((words1.drop 24).drop 24).drop 24).drop 24).drop 24).drop 24).drop 24).drop 24).drop 24).drop 24).drop 24).drop 24).drop 24).drop 24).drop 24).drop 24).drop 24).drop 24).drop 24).drop 24).drop 24).drop 24).drop 24), List.all_append, w_t24, ← List.take_append_drop 24 ((((((((((((((((((((((((words1.drop 24).drop 24).drop 24).drop 24).drop 24).drop 24).drop 24).drop 24).drop 24).drop 24).drop 24).drop 24).drop 24).drop 24).drop 24).drop 24).drop 24).drop 24).drop 24).drop 24).drop 24).drop 24).drop 24).drop 24), List.all_append, w_t25, w_t26]
  rfl
theorem w_rest : rest_1_c.before args0 about1 = true := by decide +kernel
theorem w_case : (Jvm.Cond.and given_1 narrow_1).before args0 about1 = true := by decide +kernel
theorem w_consts : constsHeld consts_1 about1 := Jvm.Lit.constsHeldB_iff.mp (by decide +kernel)
theorem w_applies : (headSpec (Jvm.Cond.code x code maxLocals ret :: tables_1) room_1).applies x e0.platform about1 = true :=
  (Spec.applies_iff w_frames).mpr ⟨w_running, w_runnable, w_alone, w_named, w_hears, w_ripe, w_room, w_tables⟩
theorem atStart : AtStart classFile x code maxLocals ret World_1 tables_1 room_1 Calls_1 rest_1 Pre_1 launch0 p0 e0 about1 theMethod args0 below0 :=
  ⟨lists_1, trivial, launch0.admits_env _ _ _, launch0.least_env, fairChoices_fair.cas, fairChoices_fair.clock, w_frames, w_args, w_heap, w_applies, ⟨⟨48, k48, 5, by decide +kernel, rfl, rfl, _, rfl, rfl⟩, ⟨w_consts, trivial⟩⟩, w_rest, w_case⟩
end start1
theorem witness_1 : WitnessClaimed_1 := ⟨start1.p0, start1.e0, start1.about1, start1.theMethod, start1.args0, start1.below0, start1.atStart⟩
end Jvm.Pilot.@@N@@
