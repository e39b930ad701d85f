import JvmDerived
import JvmDerived.Pilot.@@N@@Statement
import JvmDerived.Pilot.@@N@@Code
set_option linter.unusedVariables false
set_option linter.unusedSimpArgs false
@@BLOCK:TracedD.lean.txt@@
namespace Jvm.OwnK
open Sem ClassFile Op Lib Bundle Jvm.Stand Jvm.Free Jvm.LawKit Jvm.RoadKit
/-! A small calculus of runs over the library's Stand, own text. Run: from any state that stands with heap h at pc, locals L, stack S, the run ends well. -/
abbrev Kx : Type := Program × Launch × Env × Room × State × MethodId × Array Value × List Frame × Method × Code
abbrev Kx.p (K : Kx) : Program := K.1
abbrev Kx.l (K : Kx) : Launch := K.2.1
abbrev Kx.e (K : Kx) : Env := K.2.2.1
abbrev Kx.R (K : Kx) : Room := K.2.2.2.1
abbrev Kx.s (K : Kx) : State := K.2.2.2.2.1
abbrev Kx.m (K : Kx) : MethodId := K.2.2.2.2.2.1
abbrev Kx.as (K : Kx) : Array Value := K.2.2.2.2.2.2.1
abbrev Kx.bl (K : Kx) : List Frame := K.2.2.2.2.2.2.2.1
abbrev Kx.me (K : Kx) : Method := K.2.2.2.2.2.2.2.2.1
abbrev Kx.c (K : Kx) : Code := K.2.2.2.2.2.2.2.2.2
/-- the walk stands at T, its heap h, cl cells and sl slots made; W: places that no booked constant holds -/
def St (Z : State) (EL : List (String × Nat)) (nI : Bool) (K : Kx) (W : List Addr) (h : Heap) (cl sl : Nat) (T : State) : Prop :=
  ∃ (vm0 : Vm) (k0 : Nat) (locs : List Loc), Stand K.p K.l K.e K.R (K.s.setVm vm0) K.m K.as K.bl K.me K.c T locs cl sl ∧ K.s.Since vm0 k0 ∧ k0 ≤ h.size ∧ Z.Warmed39 vm0 ∧ CHr Z EL K.s.vm K.s.heap vm0 h ∧ (∀ x ∈ W, x < h.size ∧ Safe Z EL vm0 h x) ∧ T.heap = h ∧ Fr Z.heap.size locs ∧ (nI = true → K.s.WarmedH vm0) ∧ Ext Z.heap h
def Go (Z : State) (EL : List (String × Nat)) (nI : Bool) (K : Kx) (Q : Option Value → Heap → Prop) (T : State) (g : JFrame) : Prop :=
  ∃ s₂ v L, Steps K.p.tables K.e K.bl (T.setTop g) s₂ ∧ s₂.status = .running ∧ Ended s₂ K.bl (.returned v) ∧ Q v s₂.heap ∧ Fr Z.heap.size L ∧ CHr Z EL K.s.vm K.s.heap s₂.vm s₂.heap ∧ ReturnedEndW K.s (.returned v) s₂ L K.R.cells K.R.slots ∧ (nI = true → K.s.WarmedH s₂.vm) ∧ Ext Z.heap s₂.heap
def Run (Z : State) (EL : List (String × Nat)) (nI : Bool) (K : Kx) (Q : Option Value → Heap → Prop) (W : List Addr) (h : Heap) (cl sl pc : Nat) (L : Array Slot) (S : List Value) : Prop :=
  ∀ T, St Z EL nI K W h cl sl T → Go Z EL nI K Q T (mkF K.m pc L S)
/-- what is known of the invocation -/
def Ok (Z : State) (EL : List (String × Nat)) (a0 : Array Value) (l : Launch) (own nm : String) (bytes : ByteArray) (ml : Nat) (ret : Option FieldType) (R : Room) (K : Kx) : Prop :=
  K.p.tables.exec = Jvm.exec ∧ K.l = l ∧ K.R = R ∧ K.c.code = bytes ∧ K.c.maxLocals = ml ∧ K.me.sig.returnType = ret ∧ K.me.locks = false ∧ K.me.name = nm ∧ K.s.vm.findClass own = some K.m.cls ∧ EW Z a0 EL
/-- a place that a walk may write -/
def Sf (Z : State) (EL : List (String × Nat)) (W : List Addr) (h : Heap) (a : Addr) : Prop := ∀ vm, Z.Warmed39 vm → (∀ x ∈ W, x < h.size ∧ Safe Z EL vm h x) → Safe Z EL vm h a
section Rules
variable {Z : State} {EL : List (String × Nat)} {nI : Bool} {a0 : Array Value} {l : Launch} {own nm : String} {bytes : ByteArray} {ml : Nat} {ret : Option FieldType} {R : Room} {K : Kx} {Q : Option Value → Heap → Prop} {W W' : List Addr} {h : Heap} {cl sl cl' sl' pc pc' : Nat} {L L' : Array Slot} {S S' : List Value} {a : Addr} {C : String} {ty : FieldType}
theorem sfW (hm : a ∈ W) : Sf Z EL W h a := fun _ _ q => (q a hm).2
theorem sfE (E : Exa Z h a C) (h1 : C ≠ "java/lang/String") (h2 : C ≠ "[B") : Sf Z EL W h a := fun _ hZ _ => Safe.exa hZ.alike E h1 h2
theorem sfA {k : ClassId} {z : Int32} {vs : List Value} {dv : Value} (A : Arv Z h a k ty z vs dv) (ht : ty ≠ .byte) : Sf Z EL W h a := fun _ hZ _ => Safe.arv hZ.alike A ht
theorem sfR {c : Cell} (A : Arr Z h a c ty) (ht : ty ≠ .byte) : Sf Z EL W h a := fun _ hZ _ => Safe.arr hZ.alike A ht
theorem sfN : Sf Z [] W h a := fun _ _ _ B => by obtain ⟨p, hp, -⟩ := B; cases hp
/-- fewer places -/
theorem Run.less (k : Run Z EL nI K Q W' h cl sl pc L S) (hs : ∀ x ∈ W', x ∈ W) : Run Z EL nI K Q W h cl sl pc L S := fun T X => by
  obtain ⟨vm0, k0, locs, X1, X2, X3, X4, X5, X6, X7⟩ := X
  exact k T ⟨vm0, k0, locs, X1, X2, X3, X4, X5, fun x hx => X6 x (hs x hx), X7⟩
/-- more room -/
theorem Run.mono (k : Run Z EL nI K Q W h cl' sl' pc L S) (h1 : cl ≤ cl') (h2 : sl ≤ sl') : Run Z EL nI K Q W h cl sl pc L S := fun T X => by
  obtain ⟨vm0, k0, locs, X1, X7⟩ := X
  exact k T ⟨vm0, k0, locs, X1.mono h1 h2, X7⟩
/-- nothing that stood at the start was written -/
theorem Run.old (k : Ext Z.heap h → Run Z EL nI K Q W h cl sl pc L S) : Run Z EL nI K Q W h cl sl pc L S := fun T X => by
  obtain ⟨vm0, k0, locs, X1, X2, X3, X4, X5, X6, X7, X8, X9, X10⟩ := id X
  exact k X10 T X
/-- a step that leaves the heap -/
theorem Run.same (hK : Ok Z EL a0 l own nm bytes ml ret R K)
    (f : ∀ T vm0 locs, Stand K.p K.l K.e K.R (K.s.setVm vm0) K.m K.as K.bl K.me K.c T locs cl sl → Z.Warmed39 (K.s.setVm vm0).vm → (K.s.setVm vm0).vm.findClass own = some K.m.cls → T.heap = h →
      ∃ T', Stand K.p K.l K.e K.R (K.s.setVm vm0) K.m K.as K.bl K.me K.c T' locs cl sl ∧ T'.heap = h ∧ ∀ t, Steps K.p.tables K.e K.bl (T'.setTop (mkF K.m pc' L' S')) t → Steps K.p.tables K.e K.bl (T.setTop (mkF K.m pc L S)) t)
    (k : Run Z EL nI K Q W h cl sl pc' L' S') : Run Z EL nI K Q W h cl sl pc L S := fun T X => by
  obtain ⟨vm0, k0, locs, X1, X2, X3, X4, X5, X6, X7, X8⟩ := X
  obtain ⟨T', Y, eY, st⟩ := f T vm0 locs X1 X4 (by rw [show (K.s.setVm vm0).vm = vm0 from rfl, X2.1.alike.findClass]; exact hK.2.2.2.2.2.2.2.2.1) X7
  obtain ⟨s2, v, Lo, g, r⟩ := k T' ⟨vm0, k0, locs, Y, X2, X3, X4, X5, X6, eY, X8⟩
  exact ⟨s2, v, Lo, st _ g, r⟩
/-- a step that moves frames alone -/
theorem Run.step (hK : Ok Z EL a0 l own nm bytes ml ret R K)
    (f : ∀ T, At T K.m K.c K.bl → ∀ t, Steps K.p.tables K.e K.bl (T.setTop (mkF K.m pc' L' S')) t → Steps K.p.tables K.e K.bl (T.setTop (mkF K.m pc L S)) t)
    (k : Run Z EL nI K Q W h cl sl pc' L' S') : Run Z EL nI K Q W h cl sl pc L S :=
  Run.same hK (fun T vm0 locs X _ _ e => ⟨T, X, e, f T X.here⟩) k
/-- a step that makes cells -/
theorem Run.grow (hK : Ok Z EL a0 l own nm bytes ml ret R K) {P : Heap → Prop}
    (f : ∀ T vm0 locs, Stand K.p K.l K.e K.R (K.s.setVm vm0) K.m K.as K.bl K.me K.c T locs cl sl → Z.Warmed39 (K.s.setVm vm0).vm → (K.s.setVm vm0).vm.findClass own = some K.m.cls → T.heap = h →
      ∃ T' h', Stand K.p K.l K.e K.R (K.s.setVm vm0) K.m K.as K.bl K.me K.c T' locs cl' sl' ∧ T'.heap = h' ∧ Ext h h' ∧ h.size < h'.size ∧ P h' ∧ ∀ t, Steps K.p.tables K.e K.bl (T'.setTop (mkF K.m pc' L' S')) t → Steps K.p.tables K.e K.bl (T.setTop (mkF K.m pc L S)) t)
    (k : ∀ h', Ext h h' → P h' → Run Z EL nI K Q (h.size :: W) h' cl' sl' pc' L' S') : Run Z EL nI K Q W h cl sl pc L S := fun T X => by
  obtain ⟨vm0, k0, locs, X1, X2, X3, X4, X5, X6, X7, X8, X9, X10⟩ := X
  obtain ⟨T', h', Y, eY, E, hsz, hP, st⟩ := f T vm0 locs X1 X4 (by rw [show (K.s.setVm vm0).vm = vm0 from rfl, X2.1.alike.findClass]; exact hK.2.2.2.2.2.2.2.2.1) X7
  obtain ⟨s2, v, Lo, g, r⟩ := k h' E hP T' ⟨vm0, k0, locs, Y, X2, Nat.le_trans X3 E.1, X4, X5.trans (CHr.ext E X5.1), fun x hx => by
    rcases List.mem_cons.mp hx with rfl | hx
    · exact ⟨hsz, Safe.ext E X5.1 (Safe.new (Nat.le_refl _))⟩
    · exact ⟨Nat.lt_of_lt_of_le (X6 x hx).1 E.1, Safe.ext E X5.1 (X6 x hx).2⟩, eY, X8, X9, Nat.le_trans X10.1 E.1, fun x c q => E.2 x c (X10.2 x c q)⟩
  exact ⟨s2, v, Lo, st _ g, r⟩
/-- a step that writes one place -/
theorem Run.write (hK : Ok Z EL a0 l own nm bytes ml ret R K) {i : Nat} {w : Value} (ha : Z.heap.size ≤ a) (hs : Sf Z EL W h a)
    (f : ∀ T vm0 locs, Stand K.p K.l K.e K.R (K.s.setVm vm0) K.m K.as K.bl K.me K.c T locs cl sl → Z.Warmed39 (K.s.setVm vm0).vm → (K.s.setVm vm0).vm.findClass own = some K.m.cls → T.heap = h →
      ∃ T' h', Stand K.p K.l K.e K.R (K.s.setVm vm0) K.m K.as K.bl K.me K.c T' (locs ++ [⟨a, i⟩]) cl sl ∧ T'.heap = h' ∧ Wr h h' a i w ∧ ∀ t, Steps K.p.tables K.e K.bl (T'.setTop (mkF K.m pc' L' S')) t → Steps K.p.tables K.e K.bl (T.setTop (mkF K.m pc L S)) t)
    (k : ∀ h', Wr h h' a i w → Run Z EL nI K Q W h' cl sl pc' L' S') : Run Z EL nI K Q W h cl sl pc L S := fun T X => by
  obtain ⟨vm0, k0, locs, X1, X2, X3, X4, X5, X6, X7, X8, X9, X10⟩ := X
  obtain ⟨T', h', Y, eY, Wt, st⟩ := f T vm0 locs X1 X4 (by rw [show (K.s.setVm vm0).vm = vm0 from rfl, X2.1.alike.findClass]; exact hK.2.2.2.2.2.2.2.2.1) X7
  have hsz := Wt.size
  have sa := hs vm0 X4 X6
  obtain ⟨s2, v, Lo, g, r⟩ := k h' Wt T' ⟨vm0, k0, _, Y, X2, hsz ▸ X3, X4, X5.trans (CHr.wr Wt sa X5.1), fun x hx => ⟨hsz ▸ (X6 x hx).1, Safe.wr Wt sa X5.1 (X6 x hx).2⟩, eY, Fr.snoc Y X8 ha, X9, (Old.wr (Z := Z) (n0 := Z.heap.size) ⟨rfl, X10⟩ Wt ha).2⟩
  exact ⟨s2, v, Lo, st _ g, r⟩
end Rules
/-- **A CALLEE, PAID**: whatever pays it -/
def Cal (Z : State) (EL : List (String × Nat)) (nI : Bool) (a0 : Array Value) (l : Launch) (R : Room) (y : MethodName) (len Wt : Nat) (as' : Array Value) (h : Heap) (W : List Addr) (kc ks : Nat) (Qy : Option Value → Heap → Prop) : Prop :=
  ∀ (p : Program) (e : Env) (bl : List Frame) (s : State) (as : Array Value) (vm0 : Vm), Z.Warmed39 vm0 → EW Z a0 EL → CHv Z EL vm0 h → (∀ x ∈ W, x < h.size ∧ Safe Z EL vm0 h x) → Ext Z.heap h →
    BackS l R p e bl (s.setVm vm0) as y len Wt (fun A a => a = as' ∧ A.U.heap = h ∧ A.cells + kc ≤ R.cells ∧ A.slots + ks ≤ R.slots)
      (fun A _ v B => ∃ Lo, Qy v B.U.heap ∧ Fr Z.heap.size Lo ∧ B.locs = A.locs ++ Lo ∧ B.cells = A.cells + kc ∧ B.slots = A.slots + ks ∧ CHr Z EL vm0 h B.U.vm B.U.heap ∧ (nI = true → (s.setVm vm0).WarmedH B.U.vm) ∧ Ext Z.heap B.U.heap)
/-- an own contract -/
def Ctr (Z : State) (EL : List (String × Nat)) (nI : Bool) (l : Launch) (ws : List Jvm.Cond) (y : MethodName) (bytes : ByteArray) (ml : Nat) (ret : Option FieldType) (rm : Room) (as' : Array Value) (h : Heap) (W : List Addr) (Qy : Option Value → Heap → Prop) : Prop :=
  MetFree l y (head1 (Jvm.Cond.code y bytes ml ret :: ws) rm) (fun a U => a = as' ∧ Z.Warmed39 U.vm ∧ U.heap = h ∧ CHv Z EL U.vm h ∧ (∀ x ∈ W, x < h.size ∧ Safe Z EL U.vm h x) ∧ Ext Z.heap h) (fun _ _ _ _ _ => True)
    (fun _ U o U' => ∃ v Lo, o = .returned v ∧ Qy v U'.heap ∧ Fr Z.heap.size Lo ∧ CHr Z EL U.vm U.heap U'.vm U'.heap ∧ ReturnedEndW U o U' Lo rm.cells rm.slots ∧ (nI = true → U.WarmedH U'.vm) ∧ Ext Z.heap U'.heap)
section Calls
variable {Z : State} {EL : List (String × Nat)} {nI : Bool} {a0 : Array Value} {l : Launch} {own nm : String} {bytes : ByteArray} {ml : Nat} {ret : Option FieldType} {R rm : Room} {K : Kx} {Q Qy : Option Value → Heap → Prop} {W W' : List Addr} {h : Heap} {cl sl pc len Wt kc ks : Nat} {L : Array Slot} {S rest argsL : List Value} {y z : MethodName} {as' : Array Value} {index : Nat}
theorem Ctr.of_run {L0 : Array Slot} {ws : List Jvm.Cond} (hpl : plainFor y = true) (hEL : EW Z a0 EL) (hent : argsToLocals as' ml = L0)
    (body : ∀ K, Ok Z EL a0 l y.cls y.name bytes ml ret rm K → Run Z EL nI K Qy W h 0 0 0 L0 []) : Ctr Z EL nI l ws y bytes ml ret rm as' h W Qy := by
  refine MetFree.of_bodySF (code := bytes) (maxLocals := ml) (ret := ret) hpl hisR ?_
  intro p e s m args below meth c s₁ Bd hml hP hK
  obtain ⟨rfl, hZ, hh, hC, hS, hO⟩ := hP
  subst hent
  have e0 : s₁.heap = h := by rw [← hh, Bd.state]; rfl
  obtain ⟨s2, v, Lo, g1, g2, g3, g4, g5, g6, g7, g8⟩ := body (p, l, e, rm, s, m, args, below, meth, c) ⟨Bd.exec, rfl, rfl, Bd.bytes, hml, Bd.returns, Bd.notSynchronized, (name_of_methodNamed Bd.named Bd.method).1, findClass_of_methodNamed Bd.named, hEL⟩ s₁
    ⟨s.vm, 0, [], Stand.of_body Bd, (State.WarmedH.refl s).since 0, Nat.zero_le _, hZ, by subst hh; exact CHr.refl hC, hS, e0, Fr.nil _, fun _ => State.WarmedH.refl s, hO⟩
  exact ⟨s2, _, g1, g2, g3, v, Lo, rfl, g4, g5, g6, g7, g8⟩
theorem Ctr.cal (hC : Ctr Z EL nI l [] y bytes ml ret rm as' h W Qy) (wc : (Jvm.Cond.code y bytes ml ret).before a0 Z = true) (wz : (Jvm.Cond.initialized y.cls).before a0 Z = true) (hf : rm.frames + 1 ≤ R.frames) (hl : Wt + (ml + 11) + rm.locals ≤ R.locals) :
    Cal Z EL nI a0 l R y len Wt as' h W rm.cells rm.slots Qy := fun p e bl s as vm0 hZ hEL H hS hO =>
  BackS.of_freeW (bytes := bytes) (maxL := ml) (ret := ret) (E := fun _ first o t Lo k n => k = rm.cells ∧ n = rm.slots ∧ (∃ v, o = .returned v ∧ Qy v t.heap) ∧ Fr Z.heap.size Lo ∧ CHr Z EL first.vm first.heap t.vm t.heap ∧ (nI = true → first.WarmedH t.vm) ∧ Ext Z.heap t.heap) hC hf hl
    (fun m meth c A a Y hp => have hU : Z.Warmed39 A.U.vm := wtrans (s := s.setVm vm0) hZ Y.warmed
      ⟨by show (Cond.and _ .tt).before a A.U = true; rw [Cond.before_and, mv hU wc]; rfl, mv hU wc, mv hU wz, hp.2.2.1, hp.2.2.2⟩)
    (fun m meth c A a g mk Y hp => have B := CHv.at Y hZ hEL H; ⟨hp.1, wtrans (s := s.setVm vm0) hZ Y.warmed, hp.2.1, B.1, fun x hx => ⟨(hS x hx).1, B.safe (hS x hx).1 (hS x hx).2⟩, hO⟩) (fun _ _ _ _ _ _ _ _ _ => trivial)
    (fun _ _ _ _ ⟨v, Lo, h1, h2, h3, h4, h5, h6⟩ => ⟨Lo, _, _, h5, rfl, rfl, ⟨v, h1, h2⟩, h3, h4, h6⟩)
    (fun m meth c A a g mk v t Lo k n Y hp _ _ ⟨e1, e2, ⟨v', e3, e4⟩, e5, e6, e7, e8⟩ => by
      cases e3; subst e1 e2
      refine ⟨Lo, e4, e5, rfl, rfl, rfl, (CHv.at Y hZ hEL H).trans ?_, fun q => State.WarmedH.trans Y.warmed (e7 q), e8⟩
      rw [← hp.2.1]; exact e6)
/-- a law of the library's or of a paste, that interns nothing -/
theorem Cal.of_back {Qz : Option Value → Heap → List Loc → Prop}
    (hB : ∀ (p : Program) (e : Env) (bl : List Frame) (s : State) (as : Array Value), Z.Warmed39 s.vm → Ext Z.heap h → Back l R p e bl s as y len Wt (fun A a => a = as' ∧ A.U.heap = h ∧ A.cells + kc ≤ R.cells ∧ A.slots + ks ≤ R.slots) (fun A _ v B => ∃ Lo, Qz v B.U.heap Lo ∧ B.locs = A.locs ++ Lo ∧ B.cells = A.cells + kc ∧ B.slots = A.slots + ks))
    (hQ : ∀ v h' Lo, Qz v h' Lo → Qy v h' ∧ Fr Z.heap.size Lo ∧ ∃ ws, Keep h h' ws ∧ ∀ x ∈ ws, Z.heap.size ≤ x ∧ Sf Z EL W h x) : Cal Z EL nI a0 l R y len Wt as' h W kc ks Qy := fun p e bl s as vm0 hZ hEL H hS hO => by
  intro m meth c A g ig mk a X hg hsize hdg hW hn hp
  obtain ⟨v, B, X', ⟨Lo, hq, e1, e2, e3⟩, hsteps⟩ := hB p e bl (s.setVm vm0) as hZ hO m meth c A g ig mk a X hg hsize hdg hW hn hp
  obtain ⟨q1, q2, ws, q3, q4⟩ := hQ _ _ _ hq
  have hs : ∀ x ∈ ws, Safe Z EL vm0 h x := fun x hx => (q4 x hx).2 vm0 hZ hS
  exact ⟨v, B, X'.retabled X'.warmed.wide, X'.warmed.since _, by rw [hp.2.1]; exact q3.1, ⟨Lo, q1, q2, e1, e2, e3, (CHr.keep q3 hs H).trans (CHv.at X' hZ hEL (H.keep q3 hs)), fun _ => X'.warmed, (Old.keep (Z := Z) (n0 := Z.heap.size) ⟨rfl, hO⟩ q3 (fun x hx => (q4 x hx).1)).2⟩, hsteps⟩
theorem Cal.more {kc' ks' : Nat} (hC : Cal Z EL nI a0 l R y len Wt as' h W kc ks Qy) (h1 : kc ≤ kc') (h2 : ks ≤ ks') : Cal Z EL nI a0 l R y len Wt as' h W kc' ks' Qy := fun p e bl s as vm0 hZ hEL H hS hO => by
  intro m meth c A g ig mk a X hg hsize hdg hW hn hp
  obtain ⟨v, B, X', q1, q2, ⟨Lo, r1, r2, r3, r4, r5, r6⟩, st⟩ := hC p e bl s as vm0 hZ hEL H hS hO m meth c A g ig mk a X hg hsize hdg hW hn ⟨hp.1, hp.2.1, by have := hp.2.2.1; omega, by have := hp.2.2.2; omega⟩
  exact ⟨v, ⟨B.U, B.locs, A.cells + kc', A.slots + ks'⟩, X'.mono (by show B.cells ≤ A.cells + kc'; rw [r4]; omega) (by show B.slots ≤ A.slots + ks'; rw [r5]; omega), q1, q2, ⟨Lo, r1, r2, r3, rfl, rfl, r6⟩, st⟩
theorem Cal.conseq {Qz : Option Value → Heap → Prop} (hC : Cal Z EL nI a0 l R y len Wt as' h W' kc ks Qy) (hs : ∀ x ∈ W', x ∈ W) (hq : ∀ v h', Qy v h' → Qz v h') : Cal Z EL nI a0 l R y len Wt as' h W kc ks Qz := fun p e bl s as vm0 hZ hEL H hS hO => by
  intro m meth c A g ig mk a X hg hsize hdg hW hn hp
  obtain ⟨v, B, X', q1, q2, ⟨Lo, r1, r⟩, st⟩ := hC p e bl s as vm0 hZ hEL H (fun x hx => hS x (hs x hx)) hO m meth c A g ig mk a X hg hsize hdg hW hn hp
  exact ⟨v, B, X', q1, q2, ⟨Lo, hq _ _ r1, r⟩, st⟩
/-- behind a call: the walk stands again -/
theorem St.back (hK : Ok Z EL a0 l own nm bytes ml ret R K) {vm0 : Vm} {k0 : Nat} {locs : List Loc} {v : Option Value} {B : Pt} (X2 : K.s.Since vm0 k0) (X3 : k0 ≤ h.size) (X4 : Z.Warmed39 vm0) (X5 : CHr Z EL K.s.vm K.s.heap vm0 h) (X6 : ∀ x ∈ W, x < h.size ∧ Safe Z EL vm0 h x) (X8 : Fr Z.heap.size locs) (X9 : nI = true → K.s.WarmedH vm0)
    (Y : Stand K.p K.l K.e K.R ((K.s.setVm vm0).setVm B.U.vm) K.m K.as K.bl K.me K.c B.U B.locs B.cells B.slots) (hS : (K.s.setVm vm0).Since B.U.vm B.U.heap.size) (hg : h.size ≤ B.U.heap.size)
    (hp : ∃ Lo, Qy v B.U.heap ∧ Fr Z.heap.size Lo ∧ B.locs = locs ++ Lo ∧ B.cells = cl + kc ∧ B.slots = sl + ks ∧ CHr Z EL vm0 h B.U.vm B.U.heap ∧ (nI = true → (K.s.setVm vm0).WarmedH B.U.vm) ∧ Ext Z.heap B.U.heap) :
    Qy v B.U.heap ∧ St Z EL nI K W B.U.heap (cl + kc) (sl + ks) B.U := by
  obtain ⟨Lo, h1, h2, h3, h4, h5, h6, h7, h8⟩ := hp
  rw [h3, h4, h5] at Y
  exact ⟨h1, B.U.vm, B.U.heap.size, _, Y, X2.trans hS (Nat.le_trans X3 hg), Nat.le_refl _, State.Warmed39.trans (t := K.s.setVm vm0) X4 hS.1, X5.trans h6, fun x hx => ⟨Nat.lt_of_lt_of_le (X6 x hx).1 hg, h6.safe (X6 x hx).1 (X6 x hx).2⟩, rfl, X8.app h2, fun q => State.WarmedH.trans (X9 q) (h7 q), h8⟩
theorem Ok.fc (hK : Ok Z EL a0 l own nm bytes ml ret R K) {vm0 : Vm} {k0 : Nat} (X2 : K.s.Since vm0 k0) : (K.s.setVm vm0).vm.findClass own = some K.m.cls := by rw [show (K.s.setVm vm0).vm = vm0 from rfl, X2.1.alike.findClass]; exact hK.2.2.2.2.2.2.2.2.1
/-- invokestatic -/
theorem Run.static (hK : Ok Z EL a0 l own nm bytes ml ret R K) {by' : ByteArray} {ml' : Nat} {ret' : Option FieldType} (w1 : (Jvm.Cond.methodLink own index y).before a0 Z = true) (w2 : (Jvm.Cond.static y).before a0 Z = true) (w3 : (Jvm.Cond.initialized y.cls).before a0 Z = true) (w4 : (Jvm.Cond.code y by' ml' ret').before a0 Z = true)
    (hy : y.cls ≠ "java/lang/invoke/MethodHandle" ∧ y.cls ≠ "java/lang/invoke/VarHandle") (hsub : ∀ x ∈ W', x ∈ W) (hC : Cal Z EL nI a0 l R y 3 Wt argsL.toArray h W' kc ks Qy) (hsz : L.size = ml)
    (hlen : ∀ sig, parseMethodDescriptor y.desc = some sig → argsL.length = sig.parameters.length) (hst : S = argsL.reverse ++ rest) (hW : (rest.map fun v => v.category).sum ≤ Wt) (hd : decode bytes pc = .ok (.invokestatic index, 3)) (hc : cl + kc ≤ R.cells) (hs : sl + ks ≤ R.slots)
    (k : ∀ v h', Qy v h' → h.size ≤ h'.size → Run Z EL nI K Q W h' (cl + kc) (sl + ks) (pc + 3) L (v.toList ++ rest)) : Run Z EL nI K Q W h cl sl pc L S := fun T X => by
  obtain ⟨vm0, k0, locs, X1, X2, X3, X4, X5, X6, X7, X8, X9, X10⟩ := X
  have hown := hK.fc X2
  obtain ⟨hx, rfl, rfl, rfl, rfl, -, -, -, -, hEL⟩ := id hK
  have hZ : Z.Warmed39 (K.s.setVm vm0).vm := X4
  subst hst
  obtain ⟨v, vm1, B, -, Y, hS, hg, hp, st⟩ := callSS X1 hx (y := y) hown (mvT hZ w1) (mvT hZ w2) (mvT hZ w3) (mvT hZ w4) hy (hC K.p K.e K.bl K.s K.as vm0 X4 hEL X5.1 (fun x hx => X6 x (hsub x hx)) X10) (g := mkF K.m pc L (argsL.reverse ++ rest)) rfl hsz (argsL := argsL) (rest := rest) hlen rfl (by show 2 * 0 + _ ≤ _; omega) hd (fun _ _ => ⟨rfl, X7, hc, hs⟩)
  rw [X7] at hg
  obtain ⟨hq, Y'⟩ := St.back hK X2 X3 X4 X5 X6 X8 X9 Y hS hg hp
  obtain ⟨s2, v', Lo, g, r⟩ := k v _ hq hg B.U Y'
  exact ⟨s2, v', Lo, st.trans g, r⟩
/-- invokespecial of a constructor -/
theorem Run.special (hK : Ok Z EL a0 l own nm bytes ml ret R K) {by' : ByteArray} {ml' : Nat} (hy1 : y.name = "<init>") (w1 : (Jvm.Cond.methodLink own index y).before a0 Z = true) (w2 : (Jvm.Cond.instanceMethod y).before a0 Z = true) (w4 : (Jvm.Cond.code y by' ml' none).before a0 Z = true)
    (hy : y.cls ≠ "java/lang/invoke/MethodHandle" ∧ y.cls ≠ "java/lang/invoke/VarHandle") {a : Addr} (hsub : ∀ x ∈ W', x ∈ W) (hC : Cal Z EL nI a0 l R y 3 Wt (.ref a :: argsL).toArray h W' kc ks Qy) (hsz : L.size = ml)
    (hlen : ∀ sig, parseMethodDescriptor y.desc = some sig → argsL.length = sig.parameters.length) (hst : S = argsL.reverse ++ .ref a :: rest) (hW : (rest.map fun v => v.category).sum ≤ Wt) (hd : decode bytes pc = .ok (.invokespecial index, 3)) (hc : cl + kc ≤ R.cells) (hs : sl + ks ≤ R.slots)
    (k : ∀ v h', Qy v h' → h.size ≤ h'.size → Run Z EL nI K Q W h' (cl + kc) (sl + ks) (pc + 3) L (v.toList ++ rest)) : Run Z EL nI K Q W h cl sl pc L S := fun T X => by
  obtain ⟨vm0, k0, locs, X1, X2, X3, X4, X5, X6, X7, X8, X9, X10⟩ := X
  have hown := hK.fc X2
  obtain ⟨hx, rfl, rfl, rfl, rfl, -, -, -, -, hEL⟩ := id hK
  have hZ : Z.Warmed39 (K.s.setVm vm0).vm := X4
  subst hst
  obtain ⟨v, vm1, B, -, Y, hS, hg, hp, st⟩ := X1.specialBackS hx (y := y) hy1 hown (mvT hZ w1) (mvT hZ w2) (mvT hZ w4) hy (hC K.p K.e K.bl K.s K.as vm0 X4 hEL X5.1 (fun x hx => X6 x (hsub x hx)) X10) (g := mkF K.m pc L (argsL.reverse ++ .ref a :: rest)) rfl hsz (Steps.refl _) (a := a) (argsL := argsL) (rest := rest) hlen rfl (by show 2 * 0 + _ ≤ _; omega) hd (fun _ _ => ⟨rfl, X7, hc, hs⟩)
  rw [X7] at hg
  obtain ⟨hq, Y'⟩ := St.back hK X2 X3 X4 X5 X6 X8 X9 Y hS hg hp
  obtain ⟨s2, v', Lo, g, r⟩ := k v _ hq hg B.U Y'
  exact ⟨s2, v', Lo, st.trans g, r⟩
/-- invokevirtual, the object exactly of class C -/
theorem Run.virtual (hK : Ok Z EL a0 l own nm bytes ml ret R K) {C : String} (w1 : (Jvm.Cond.methodLink own index y).before a0 Z = true) (w2 : (Jvm.Cond.declares y).before a0 Z = true) (hnf : ∀ s : State, Z.Warmed39 s.vm → NotFace s y) (w3 : (Jvm.Cond.selects C y z).before a0 Z = true) (w4 : (Jvm.Cond.instanceMethod z).before a0 Z = true)
    (hy : y.cls ≠ "java/lang/invoke/MethodHandle" ∧ y.cls ≠ "java/lang/invoke/VarHandle") {a : Addr} (E : Exa Z h a C) (hsub : ∀ x ∈ W', x ∈ W) (hC : Cal Z EL nI a0 l R z 3 Wt (.ref a :: argsL).toArray h W' kc ks Qy) (hsz : L.size = ml)
    (hlen : ∀ sig, parseMethodDescriptor y.desc = some sig → argsL.length = sig.parameters.length) (hst : S = argsL.reverse ++ .ref a :: rest) (hW : (rest.map fun v => v.category).sum ≤ Wt) (hd : decode bytes pc = .ok (.invokevirtual index, 3)) (hc : cl + kc ≤ R.cells) (hs : sl + ks ≤ R.slots)
    (k : ∀ v h', Qy v h' → h.size ≤ h'.size → Run Z EL nI K Q W h' (cl + kc) (sl + ks) (pc + 3) L (v.toList ++ rest)) : Run Z EL nI K Q W h cl sl pc L S := fun T X => by
  obtain ⟨vm0, k0, locs, X1, X2, X3, X4, X5, X6, X7, X8, X9, X10⟩ := X
  have hown := hK.fc X2
  obtain ⟨hx, rfl, rfl, rfl, rfl, -, -, -, -, hEL⟩ := id hK
  have hZ : Z.Warmed39 (K.s.setVm vm0).vm := X4
  subst hst
  obtain ⟨cq, kq, qa, qb, qc⟩ := isOf hZ X7 E
  obtain ⟨v, vm1, B, -, Y, hS, hg, hp, st⟩ := X1.virtualBackS hx (y := y) (z := z) hown (mvT hZ w1) (mvT hZ w2) (hnf _ hZ) (mvT hZ w3) (mvT hZ w4) hy (hC K.p K.e K.bl K.s K.as vm0 X4 hEL X5.1 (fun x hx => X6 x (hsub x hx)) X10) qa qc (g := mkF K.m pc L (argsL.reverse ++ .ref a :: rest)) rfl hsz (Steps.refl _) (argsL := argsL) (rest := rest) hlen rfl (by show 2 * 0 + _ ≤ _; omega) hd (fun _ _ => ⟨rfl, X7, hc, hs⟩)
  rw [X7] at hg
  obtain ⟨hq, Y'⟩ := St.back hK X2 X3 X4 X5 X6 X8 X9 Y hS hg hp
  obtain ⟨s2, v', Lo, g, r⟩ := k v _ hq hg B.U Y'
  exact ⟨s2, v', Lo, st.trans g, r⟩
/-- invokevirtual of a private method of an ordinary class -/
theorem Run.privat (hK : Ok Z EL a0 l own nm bytes ml ret R K) {by' : ByteArray} {ml' n' : Nat} {ret' : Option FieldType} {C : String} (w1 : (Jvm.Cond.methodLink own index y).before a0 Z = true) (w2 : (Jvm.Cond.instanceMethod y).before a0 Z = true) (w3 : (Jvm.Cond.instantiable y.cls n').before a0 Z = true) (w5 : (Jvm.Cond.privateMethod y).before a0 Z = true) (w4 : (Jvm.Cond.code y by' ml' ret').before a0 Z = true)
    (hy : y.cls ≠ "java/lang/invoke/MethodHandle" ∧ y.cls ≠ "java/lang/invoke/VarHandle") {a : Addr} (E : Exa Z h a C) (hsub : ∀ x ∈ W', x ∈ W) (hC : Cal Z EL nI a0 l R y 3 Wt (.ref a :: argsL).toArray h W' kc ks Qy) (hsz : L.size = ml)
    (hlen : ∀ sig, parseMethodDescriptor y.desc = some sig → argsL.length = sig.parameters.length) (hst : S = argsL.reverse ++ .ref a :: rest) (hW : (rest.map fun v => v.category).sum ≤ Wt) (hd : decode bytes pc = .ok (.invokevirtual index, 3)) (hc : cl + kc ≤ R.cells) (hs : sl + ks ≤ R.slots)
    (k : ∀ v h', Qy v h' → h.size ≤ h'.size → Run Z EL nI K Q W h' (cl + kc) (sl + ks) (pc + 3) L (v.toList ++ rest)) : Run Z EL nI K Q W h cl sl pc L S := fun T X => by
  obtain ⟨vm0, k0, locs, X1, X2, X3, X4, X5, X6, X7, X8, X9, X10⟩ := X
  have hown := hK.fc X2
  obtain ⟨hx, rfl, rfl, rfl, rfl, -, -, -, -, hEL⟩ := id hK
  have hZ : Z.Warmed39 (K.s.setVm vm0).vm := X4
  subst hst
  obtain ⟨cq, q1, q2⟩ := E.cell
  obtain ⟨mk, me, hn, hm, hst', hab⟩ := Cond.instanceMethod_spec (mvT (args := K.as) hZ w2)
  obtain ⟨me', cM, hm', -, -, -, -, -, -, hsig⟩ := Cond.code_spec hn (mvT (args := K.as) hZ w4)
  cases hm.symm.trans hm'
  obtain ⟨ci, ki, i1, i2, -, i4, -⟩ := Cond.instantiable_spec (mvT (args := K.as) hZ w3)
  obtain rfl : ci = mk.cls := Option.some.inj (i1.symm.trans (findClass_of_methodNamed hn))
  have i5 : ki.isInterface = false := by cases q : ki.isInterface <;> simp [q] at i4 ⊢
  have hsel : selectMethod K.e.platform (K.s.setVm vm0).vm cq.cls mk = .method mk := selectMethod_private hm (Cond.privateMethod_at (mvP hZ w5 (args := #[])) mk me hn hm)
  obtain ⟨vm1, Y1, st1⟩ := X1.invokevirtual hx hown (mvT hZ w1) hn hm hst' i2 i5 hy (a := a) (cell := cq) (by rw [X7]; exact q1) q2 hsel hm hab i2 i5 (g := mkF K.m pc L (argsL.reverse ++ .ref a :: rest)) rfl (argsL := argsL) (rest := rest) (hlen _ hsig) rfl hd
  obtain ⟨v, B, Y, hS, hg, hp, st2⟩ := hC K.p K.e K.bl K.s K.as vm0 X4 hEL X5.1 (fun x hx => X6 x (hsub x hx)) X10 K.m K.me K.c ⟨T.setVm vm1, locs, cl, sl⟩ (mkF K.m pc L rest) (.invokevirtual index) mk (.ref a :: argsL).toArray Y1 rfl hsz hd (by show 2 * 0 + (rest.map fun v => v.category).sum ≤ Wt; omega) (Y1.named hn) ⟨rfl, X7, hc, hs⟩
  replace hg : h.size ≤ B.U.heap.size := by rw [← X7]; exact hg
  obtain ⟨hq, Y'⟩ := St.back hK X2 X3 X4 X5 X6 X8 X9 Y hS hg hp
  obtain ⟨s2, v', Lo, g, r⟩ := k v _ hq hg B.U Y'
  exact ⟨s2, v', Lo, st1 _ fun acts => by rw [doInvoke_state]; exact st2.trans g, r⟩
theorem nfS {C : String} (w3 : (Jvm.Cond.selects C y y).before a0 Z = true) : ∀ s : State, Z.Warmed39 s.vm → NotFace s y := fun s hZ => notFace_of_selects (args := #[]) (mvT hZ w3)
end Calls
section Single
variable {Z : State} {EL : List (String × Nat)} {nI : Bool} {a0 : Array Value} {l : Launch} {own nm : String} {bytes : ByteArray} {ml : Nat} {ret : Option FieldType} {R : Room} {K : Kx} {Q : Option Value → Heap → Prop} {W : List Addr} {h : Heap} {cl sl pc pc' index : Nat} {L L' : Array Slot} {S rest : List Value} {a : Addr} {C : String} {ty : FieldType}
theorem Run.new (hK : Ok Z EL a0 l own nm bytes ml ret R K) {n : Nat} (w : (Jvm.Cond.classLink own index C).before a0 Z = true) (wi : (Jvm.Cond.instantiable C n).before a0 Z = true) (wz : (Jvm.Cond.initialized C).before a0 Z = true) (hd : decode bytes pc = .ok (.new index, 3)) (hc : cl + 1 ≤ R.cells) (hl : sl + n ≤ R.slots)
    (k : ∀ h', Ext h h' → Exa Z h' h.size C → (∀ {O f d : String} {ty : FieldType}, Laid Z a0 C O f d → parseFieldDescriptor d = some ty → Fld Z h' h.size O f d (defaultValue ty)) → Run Z EL nI K Q (h.size :: W) h' (cl + 1) (sl + n) (pc + 3) L (.ref h.size :: S)) : Run Z EL nI K Q W h cl sl pc L S := by
  obtain ⟨hx, rfl, rfl, rfl, rfl, -⟩ := id hK
  refine Run.grow hK (P := fun h' => Exa Z h' h.size C ∧ (∀ {O f d : String} {ty : FieldType}, Laid Z a0 C O f d → parseFieldDescriptor d = some ty → Fld Z h' h.size O f d (defaultValue ty))) (fun T vm0 locs X hZ hown e => ?_) (fun h' E P => k h' E P.1 P.2)
  obtain ⟨T', h', X', e', E', A', D', -, st⟩ := newO X hx hZ hown w wi wz e (g := mkF K.m pc L S) rfl hd hc hl
  exact ⟨T', h', X', e', E', A'.lt, ⟨A', D'⟩, st⟩
theorem Run.newarr (hK : Ok Z EL a0 l own nm bytes ml ret R K) {aty : ArrayType} (w : (Jvm.Cond.arrayClass (newarray.typeOf aty)).before a0 Z = true) {n : Int32} (hd : decode bytes pc = .ok (.newarray aty, 2)) (hn : ¬ n < 0) {cap : Nat} (hcap : n.toNatClampNeg ≤ cap) (hb : cap * 8 ≤ 536870912) (hc : cl + 1 ≤ R.cells) (hl : sl + cap ≤ R.slots)
    (k : ∀ h' cA, Ext h h' → Arv Z h' h.size cA (newarray.typeOf aty) n [] (defaultValue (newarray.typeOf aty)) → Run Z EL nI K Q (h.size :: W) h' (cl + 1) (sl + cap) (pc + 2) L (.ref h.size :: rest)) : Run Z EL nI K Q W h cl sl pc L (.int n :: rest) := by
  obtain ⟨hx, rfl, rfl, rfl, rfl, -⟩ := id hK
  refine Run.grow hK (P := fun h' => ∃ cA, Arv Z h' h.size cA (newarray.typeOf aty) n [] (defaultValue (newarray.typeOf aty))) (fun T vm0 locs X hZ hown e => ?_) (fun h' E ⟨cA, P⟩ => k h' cA E P)
  obtain ⟨T', h', cA, X', e', E', A', st⟩ := newP X hx hZ w e (g := mkF K.m pc L (.int n :: rest)) rfl hd rfl hn hcap hb hc hl
  exact ⟨T', h', X', e', E', A'.lt, ⟨cA, Arv.new A' hn⟩, st⟩
theorem Run.getf (hK : Ok Z EL a0 l own nm bytes ml ret R K) {R0 O n d host : String} (w : (Jvm.Cond.fieldLink own index R0 n d).before a0 Z = true ∨ (Jvm.Cond.fieldLinkNest own index R0 n d host).before a0 Z = true) (via : Via Z R0 O n d) {v : Value} (F : Fld Z h a O n d v) (hd : decode bytes pc = .ok (.getfield index, 3))
    (k : Run Z EL nI K Q W h cl sl (pc + 3) L (v :: rest)) : Run Z EL nI K Q W h cl sl pc L (.ref a :: rest) := by
  obtain ⟨hx, rfl, rfl, rfl, rfl, -⟩ := id hK
  refine Run.same hK (fun T vm0 locs X hZ hown e => ?_) k
  exact getF X hx hZ hown w via e F (g := mkF K.m pc L (.ref a :: rest)) rfl rfl hd
theorem Run.gets (hK : Ok Z EL a0 l own nm bytes ml ret R K) {R0 O n d : String} (w : (Jvm.Cond.fieldLink own index R0 n d).before a0 Z = true) (via : Via Z R0 O n d) {v : Value} (F : Sta Z h O n d v) (hd : decode bytes pc = .ok (.getstatic index, 3))
    (k : Run Z EL nI K Q W h cl sl (pc + 3) L (v :: S)) : Run Z EL nI K Q W h cl sl pc L S := by
  obtain ⟨hx, rfl, rfl, rfl, rfl, -⟩ := id hK
  refine Run.same hK (fun T vm0 locs X hZ hown e => ?_) k
  exact getS (host := "") X hx hZ hown w via e F (g := mkF K.m pc L S) rfl hd
theorem Run.putf (hK : Ok Z EL a0 l own nm bytes ml ret R K) {R0 O n d host : String} {kk : Nat} (w : (Jvm.Cond.fieldLink own index R0 n d).before a0 Z = true ∨ (Jvm.Cond.fieldLinkNest own index R0 n d host).before a0 Z = true) (via : Via Z R0 O n d) {v old : Value} (F : Fld Z h a O n d old) (E : Exa Z h a C)
    (Lf : (Jvm.Cond.lays C O n d).before a0 Z = true ∨ ((Jvm.Cond.laysFinal C O n d).before a0 Z = true ∧ own = O ∧ nm = "<init>")) (wi : (Jvm.Cond.instantiable C kk).before a0 Z = true) (hty : parseFieldDescriptor d = some ty) (hn : narrow ty v = v) (hf : fits ty v = true) (ha : Z.heap.size ≤ a) (hs : Sf Z EL W h a) (hd : decode bytes pc = .ok (.putfield index, 3))
    (k : ∀ h', Wr h h' a (Jvm.RoadKit.slotOf Z O n d) v → Run Z EL nI K Q W h' cl sl (pc + 3) L rest) : Run Z EL nI K Q W h cl sl pc L (v :: .ref a :: rest) := by
  obtain ⟨hx, rfl, rfl, rfl, rfl, -, -, hnm, -⟩ := id hK
  refine Run.write hK ha hs (fun T vm0 locs X hZ hown e => ?_) k
  exact putF X hx hZ hown w via e F E (Lf.imp id fun q => ⟨q.1, q.2.1, hnm.trans q.2.2⟩) wi hty hn hf (g := mkF K.m pc L (v :: .ref a :: rest)) rfl rfl hd
theorem Run.initobj (hK : Ok Z EL a0 l own nm bytes ml ret R K) (w1 : (Jvm.Cond.methodLink own index Lib.objectInit).before a0 Z = true) (w2 : (Jvm.Cond.instanceMethod Lib.objectInit).before a0 Z = true) (w3 : (Jvm.Cond.code Lib.objectInit ⟨#[0xb1]⟩ 1 none).before a0 Z = true) (hsz : L.size = ml) (hd : decode bytes pc = .ok (.invokespecial index, 3))
    (hf : 1 ≤ R.frames) {Wt : Nat} (hW : (rest.map fun v => v.category).sum ≤ Wt) (hl : Wt + 12 ≤ R.locals) (k : Run Z EL nI K Q W h cl sl (pc + 3) L rest) : Run Z EL nI K Q W h cl sl pc L (.ref a :: rest) := by
  obtain ⟨hx, rfl, rfl, rfl, rfl, -⟩ := id hK
  refine Run.same hK (fun T vm0 locs X hZ hown e => ?_) k
  exact initO X hx hZ hown w1 w2 w3 e (g := mkF K.m pc L (.ref a :: rest)) rfl hsz rfl hd hf (W := Wt) (by show 2 * 0 + _ ≤ _; omega) hl
theorem Run.ldci (hK : Ok Z EL a0 l own nm bytes ml ret R K) {v : Int32} (w : (Jvm.Cond.constant own index v).before a0 Z = true) (hd : decode bytes pc = .ok (.ldc index, 2)) (k : Run Z EL nI K Q W h cl sl (pc + 2) L (.int v :: S)) : Run Z EL nI K Q W h cl sl pc L S := by
  obtain ⟨hx, rfl, rfl, rfl, rfl, -⟩ := id hK
  refine Run.same hK (fun T vm0 locs X hZ hown e => ⟨T, X, e, ?_⟩) k
  exact X.ldcInt hx hown (mvT hZ w) (g := mkF K.m pc L S) rfl hd
theorem Run.ldcl (hK : Ok Z EL a0 l own nm bytes ml ret R K) {v : Int64} (w : (Jvm.Cond.constantLong own index v).before a0 Z = true) (hd : decode bytes pc = .ok (.ldc2_w index, 3)) (k : Run Z EL nI K Q W h cl sl (pc + 3) L (.long v :: S)) : Run Z EL nI K Q W h cl sl pc L S := by
  obtain ⟨hx, rfl, rfl, rfl, rfl, -⟩ := id hK
  refine Run.same hK (fun T vm0 locs X hZ hown e => ⟨T, X, e, ?_⟩) k
  exact X.ldc2Long hx hown (mvT hZ w) (g := mkF K.m pc L S) rfl hd
theorem Run.alen (hK : Ok Z EL a0 l own nm bytes ml ret R K) {k0 : ClassId} {z : Int32} {vs : List Value} {dv : Value} (A : Arv Z h a k0 ty z vs dv) (hd : decode bytes pc = .ok (.arraylength, 1)) (k : Run Z EL nI K Q W h cl sl (pc + 1) L (.int z :: rest)) : Run Z EL nI K Q W h cl sl pc L (.ref a :: rest) := by
  obtain ⟨hx, rfl, rfl, rfl, rfl, -⟩ := id hK
  obtain ⟨c0, A1, -, A3, A4, -⟩ := A
  refine Run.same hK (fun T vm0 locs X hZ hown e => ⟨T, X, e, fun t st => ?_⟩) k
  refine X.arraylength hx (by rw [e]; exact A1.1) (State.isArrayOf_alike hZ.alike A1.2.1) (g := mkF K.m pc L (.ref a :: rest)) rfl rfl hd _ ?_
  rw [len_of A3 A4]; exact st
/-- what lies at a place of an array -/
theorem arv_at {k0 : ClassId} {z : Int32} {vs : List Value} {dv : Value} (A : Arv Z h a k0 ty z vs dv) {j : Int32} (hj : ¬ j < 0 ∧ j < z) : ∃ c : Cell, Arr Z h a c ty ∧ ¬ (j < 0 ∨ c.slots.size ≤ j.toNatClampNeg) ∧ c.slots[j.toNatClampNeg]? = some (vs.getD j.toNatClampNeg dv) := by
  obtain ⟨c0, A1, -, A3, A4, A5, -⟩ := A
  have hin := inb_of A3 hj
  exact ⟨c0, A1, hin, A5 _ (Nat.lt_of_not_le fun q => hin (Or.inr q))⟩
theorem Run.ald (hK : Ok Z EL a0 l own nm bytes ml ret R K) {k0 : ClassId} {z : Int32} {vs : List Value} {dv v : Value} {j : Int32} {i : Instr} (A : Arv Z h a k0 ty z vs dv) (hi : (i = .caload ∧ ty = .char) ∨ (i = .iaload ∧ ty = .int) ∨ (i = .baload ∧ ty = .byte) ∨ (i = .laload ∧ ty = .long)) (hj : ¬ j < 0 ∧ j < z) (hv : vs.getD j.toNatClampNeg dv = v) (hd : decode bytes pc = .ok (i, 1))
    (k : Run Z EL nI K Q W h cl sl (pc + 1) L (v :: rest)) : Run Z EL nI K Q W h cl sl pc L (.int j :: .ref a :: rest) := by
  obtain ⟨hx, rfl, rfl, rfl, rfl, -⟩ := id hK
  obtain ⟨c0, A1, hin, hat⟩ := arv_at A hj
  rw [hv] at hat
  refine Run.same hK (fun T vm0 locs X hZ hown e => ⟨T, X, e, fun t st => ?_⟩) k
  have q1 : T.heap[a]? = some c0 := by rw [e]; exact A1.1
  have q2 := State.isArrayOf_alike hZ.alike A1.2.1
  rcases hi with ⟨rfl, rfl⟩ | ⟨rfl, rfl⟩ | ⟨rfl, rfl⟩ | ⟨rfl, rfl⟩
  · exact X.caload hx q1 q2 A1.2.2 hin hat (g := mkF K.m pc L (.int j :: .ref a :: rest)) rfl rfl hd _ st
  · exact X.iaload hx q1 q2 A1.2.2 hin hat (g := mkF K.m pc L (.int j :: .ref a :: rest)) rfl rfl hd _ st
  · exact X.baloadBytes hx q1 q2 A1.2.2 hin hat (g := mkF K.m pc L (.int j :: .ref a :: rest)) rfl rfl hd _ st
  · exact X.laload hx q1 q2 A1.2.2 hin hat (g := mkF K.m pc L (.int j :: .ref a :: rest)) rfl rfl hd _ st
theorem Run.aald (hK : Ok Z EL a0 l own nm bytes ml ret R K) {c0 : Cell} {j : Int32} {v : Value} (A : Arr Z h a c0 ty) (hty : ty.isReference = true) (hin : ¬ (j < 0 ∨ c0.slots.size ≤ j.toNatClampNeg)) (hat : c0.slots[j.toNatClampNeg]? = some v) (hd : decode bytes pc = .ok (.aaload, 1))
    (k : Run Z EL nI K Q W h cl sl (pc + 1) L (v :: rest)) : Run Z EL nI K Q W h cl sl pc L (.int j :: .ref a :: rest) := by
  obtain ⟨hx, rfl, rfl, rfl, rfl, -⟩ := id hK
  refine Run.same hK (fun T vm0 locs X hZ hown e => ⟨T, X, e, fun t st => ?_⟩) k
  exact X.aaload hx (by rw [e]; exact A.1) (State.isArrayOf_alike hZ.alike A.2.1) hty A.2.2 hin hat (g := mkF K.m pc L (.int j :: .ref a :: rest)) rfl rfl hd _ st
/-- an array's value list, a place written: the list is padded where it was short -/
def setv (vs : List Value) (n i : Nat) (dv v : Value) : List Value := (vs ++ List.replicate (n - vs.length) dv).set i v
theorem arv_set {k0 : ClassId} {z : Int32} {vs : List Value} {dv v : Value} (A : Arv Z h a k0 ty z vs dv) {j : Int32} (hj : ¬ j < 0 ∧ j < z) (hv : fits ty v = true) {h' : Heap} (Wt : Wr h h' a j.toNatClampNeg v) : Arv Z h' a k0 ty z (setv vs z.toNatClampNeg j.toNatClampNeg dv v) dv := by
  obtain ⟨c0, A1, A2, A3, A4, A5, A6⟩ := A.pad (pad_rep vs dv (z.toNatClampNeg - vs.length))
  have hin := inb_of A3 hj
  have hlt : j.toNatClampNeg < z.toNatClampNeg := by rw [← A3]; exact Nat.lt_of_not_le fun q => hin (Or.inr q)
  refine Arv.set A1 A2 A3 A4 A5 A6 hv Wt _ rfl ?_
  simp only [List.length_append, List.length_replicate]; omega
theorem Run.cst (hK : Ok Z EL a0 l own nm bytes ml ret R K) {k0 : ClassId} {z : Int32} {vs : List Value} {dv : Value} {j x : Int32} (A : Arv Z h a k0 .char z vs dv) (hj : ¬ j < 0 ∧ j < z) (ha : Z.heap.size ≤ a) (hd : decode bytes pc = .ok (.castore, 1))
    (k : ∀ h', Wr h h' a j.toNatClampNeg (.int (nar .char x)) → Arv Z h' a k0 .char z (setv vs z.toNatClampNeg j.toNatClampNeg dv (.int (nar .char x))) dv → Run Z EL nI K Q W h' cl sl (pc + 1) L rest) : Run Z EL nI K Q W h cl sl pc L (.int x :: .int j :: .ref a :: rest) := by
  obtain ⟨hx, rfl, rfl, rfl, rfl, -⟩ := id hK
  obtain ⟨c0, A1, hin, hat⟩ := arv_at A hj
  refine Run.write hK ha (sfA A (by decide)) (fun T vm0 locs X hZ hown e => ?_) (fun h' Wt => k h' Wt (arv_set A hj (fits_nar_char x) Wt))
  exact stC X hx hZ e A1 hin (g := mkF K.m pc L (.int x :: .int j :: .ref a :: rest)) rfl rfl hd
theorem Run.ist (hK : Ok Z EL a0 l own nm bytes ml ret R K) {k0 : ClassId} {z : Int32} {vs : List Value} {dv : Value} {j x : Int32} (A : Arv Z h a k0 .int z vs dv) (hj : ¬ j < 0 ∧ j < z) (ha : Z.heap.size ≤ a) (hd : decode bytes pc = .ok (.iastore, 1))
    (k : ∀ h', Wr h h' a j.toNatClampNeg (.int x) → Arv Z h' a k0 .int z (setv vs z.toNatClampNeg j.toNatClampNeg dv (.int x)) dv → Run Z EL nI K Q W h' cl sl (pc + 1) L rest) : Run Z EL nI K Q W h cl sl pc L (.int x :: .int j :: .ref a :: rest) := by
  obtain ⟨hx, rfl, rfl, rfl, rfl, -⟩ := id hK
  obtain ⟨c0, A1, hin, hat⟩ := arv_at A hj
  refine Run.write hK ha (sfA A (by decide)) (fun T vm0 locs X hZ hown e => ?_) (fun h' Wt => k h' Wt (arv_set A hj rfl Wt))
  exact stI X hx hZ e A1 hin (g := mkF K.m pc L (.int x :: .int j :: .ref a :: rest)) rfl rfl hd
theorem Run.lst (hK : Ok Z EL a0 l own nm bytes ml ret R K) {k0 : ClassId} {z : Int32} {vs : List Value} {dv : Value} {j : Int32} {x : Int64} (A : Arv Z h a k0 .long z vs dv) (hj : ¬ j < 0 ∧ j < z) (ha : Z.heap.size ≤ a) (hd : decode bytes pc = .ok (.lastore, 1))
    (k : ∀ h', Wr h h' a j.toNatClampNeg (.long x) → Arv Z h' a k0 .long z (setv vs z.toNatClampNeg j.toNatClampNeg dv (.long x)) dv → Run Z EL nI K Q W h' cl sl (pc + 1) L rest) : Run Z EL nI K Q W h cl sl pc L (.long x :: .int j :: .ref a :: rest) := by
  obtain ⟨hx, rfl, rfl, rfl, rfl, -⟩ := id hK
  obtain ⟨c0, A1, hin, hat⟩ := arv_at A hj
  refine Run.write hK ha (sfA A (by decide)) (fun T vm0 locs X hZ hown e => ?_) (fun h' Wt => k h' Wt (arv_set A hj rfl Wt))
  exact stJ X hx hZ e A1 hin (g := mkF K.m pc L (.long x :: .int j :: .ref a :: rest)) rfl rfl hd
theorem Run.bst (hK : Ok Z EL a0 l own nm bytes ml ret R K) {k0 : ClassId} {z : Int32} {vs : List Value} {dv : Value} {j x : Int32} (A : Arv Z h a k0 .byte z vs dv) (hj : ¬ j < 0 ∧ j < z) (ha : Z.heap.size ≤ a) (hs : Sf Z EL W h a) (hd : decode bytes pc = .ok (.bastore, 1))
    (k : ∀ h', Wr h h' a j.toNatClampNeg (.int (nar .byte x)) → Arv Z h' a k0 .byte z (setv vs z.toNatClampNeg j.toNatClampNeg dv (.int (nar .byte x))) dv → Run Z EL nI K Q W h' cl sl (pc + 1) L rest) : Run Z EL nI K Q W h cl sl pc L (.int x :: .int j :: .ref a :: rest) := by
  obtain ⟨hx, rfl, rfl, rfl, rfl, -⟩ := id hK
  obtain ⟨c0, A1, hin, hat⟩ := arv_at A hj
  refine Run.write hK ha hs (fun T vm0 locs X hZ hown e => ?_) (fun h' Wt => k h' Wt (arv_set A hj (fits_nar_byte x) Wt))
  exact stB X hx hZ e A1 hin (g := mkF K.m pc L (.int x :: .int j :: .ref a :: rest)) rfl rfl hd
/-- System.arraycopy between two arrays of one primitive kind -/
theorem Run.cpy (hK : Ok Z EL a0 l own nm bytes ml ret R K) (w1 : (Jvm.Cond.methodLink own index Jvm.Stand.acN).before a0 Z = true) (w2 : (Jvm.Cond.native Jvm.Stand.acN).before a0 Z = true) (w3 : (Jvm.Cond.static Jvm.Stand.acN).before a0 Z = true) (w4 : (Jvm.Cond.initialized "java/lang/System").before a0 Z = true)
    {b : Addr} {k1 k2 : ClassId} {z z' sp dp nn : Int32} {vs vd us : List Value} {dv dd : Value} (A : Arv Z h a k1 ty z vs dv) (B : Arv Z h b k2 ty z' vd dd) (hty : refKind ty = false) (h1 : ¬ sp < 0) (h2 : ¬ dp < 0) (h3 : ¬ nn < 0) (h4 : sp.toNatClampNeg + nn.toNatClampNeg ≤ z.toNatClampNeg) (h5 : dp.toNatClampNeg + nn.toNatClampNeg ≤ z'.toNatClampNeg)
    (hus : us = (List.range nn.toNatClampNeg).map fun i => vs.getD (sp.toNatClampNeg + i) dv) (hl : dp.toNatClampNeg + nn.toNatClampNeg ≤ vd.length) (ge : Z.heap.size ≤ b) (hs : Sf Z EL W h b) (hsz : L.size = ml) (hd : decode bytes pc = .ok (.invokestatic index, 3)) (hf : 1 ≤ R.frames) {Wt : Nat} (hW : (rest.map fun v => v.category).sum ≤ Wt) (hlo : Wt + 18 ≤ R.locals)
    (k : ∀ h', Keep h h' [b] → Arv Z h' b k2 ty z' (vd.take dp.toNatClampNeg ++ us ++ vd.drop (dp.toNatClampNeg + nn.toNatClampNeg)) dd → Run Z EL nI K Q W h' cl sl (pc + 3) L rest) : Run Z EL nI K Q W h cl sl pc L (.int nn :: .int dp :: .ref b :: .int sp :: .ref a :: rest) := fun T X => by
  obtain ⟨vm0, k0, locs, X1, X2, X3, X4, X5, X6, X7, X8, X9, X10⟩ := X
  have hown := hK.fc X2
  obtain ⟨hx, rfl, rfl, rfl, rfl, -⟩ := id hK
  obtain ⟨T', h', L', Y, eY, N, Kp, B', st⟩ := cpA X1 hx (show Z.Warmed39 (K.s.setVm vm0).vm from X4) hown w1 w2 w3 w4 X7 A B (Or.inl ⟨rfl, hty⟩) h1 h2 h3 h4 h5 hus hl X8 ge (g := mkF K.m pc L (.int nn :: .int dp :: .ref b :: .int sp :: .ref a :: rest)) rfl hsz rfl hd hf (W := Wt) (by show 2 * 0 + _ ≤ _; omega) hlo
  have hws : ∀ x ∈ [b], Safe Z EL vm0 h x := fun x hx => by cases List.mem_singleton.mp hx; exact hs vm0 X4 X6
  have C := CHr.keep Kp hws X5.1
  obtain ⟨s2, v, Lo, g, r⟩ := k h' Kp B' T' ⟨vm0, k0, L', Y, X2, Nat.le_trans X3 Kp.1, X4, X5.trans C, fun x hx => ⟨Nat.lt_of_lt_of_le (X6 x hx).1 Kp.1, C.safe (X6 x hx).1 (X6 x hx).2⟩, eY, N, X9, (Old.keep (Z := Z) (n0 := Z.heap.size) ⟨rfl, X10⟩ Kp (fun x hx => by cases List.mem_singleton.mp hx; exact ge)).2⟩
  exact ⟨s2, v, Lo, st _ g, r⟩
/-- ldc of a String constant of EL -/
theorem Run.ldcs (hK : Ok Z EL a0 l own nm bytes ml ret R K) (hnI : nI = false) {text : String} (w : (Jvm.Cond.stringLink own index text).before a0 Z = true) (wS : ∀ d ∈ Bundle.stringAtoms, d.before a0 Z = true) (hmem : (own, index) ∈ EL)
    {vs : List Value} {z : Int32} (ht : (∀ c ∈ text.toList, c.toNat < 256) ∧ text.toList.map (fun c => Value.int (Jvm.Lit.byteI c.toNat.toUInt16)) = vs) (hz : ¬ z < 0) (hzl : z.toNatClampNeg = vs.length) (hd : decode bytes pc = .ok (.ldc index, 2)) {n : Nat} (hn : 4 * text.toList.length ≤ n) (hbig : n ≤ 536870912) (hc : cl + 2 ≤ R.cells) (hl : sl + (n + 4) ≤ R.slots)
    (k : ∀ (h' : Heap) (x b : Addr) (kb : ClassId), Ext h h' → Exa Z h' x "java/lang/String" → Fld Z h' x "java/lang/String" "coder" "B" (.int 0) → Fld Z h' x "java/lang/String" "value" "[B" (.ref b) → Arv Z h' b kb .byte z vs (.int 0) → Run Z EL nI K Q W h' (cl + 2) (sl + (n + 4)) (pc + 2) L (.ref x :: S)) : Run Z EL nI K Q W h cl sl pc L S := fun T X => by
  obtain ⟨vm0, k0, locs, X1, X2, X3, X4, X5, X6, X7, X8, X9, X10⟩ := X
  have hown := hK.fc X2
  obtain ⟨hx, rfl, rfl, rfl, rfl, -, -, -, -, hEL⟩ := id hK
  obtain ⟨x, T', h', k1, b, kb, Y, eY, E, hS, hk1, hZ', -, f1, f2, f3, f4, f5, f6, hC, -, -, st⟩ := ldcCH X1 hx X4 hown w wS X7 X2 X3 hEL hmem X5.1 ht hz hzl (g := mkF K.m pc L S) rfl hd hn hbig hc hl
  obtain ⟨s2, v', Lo, g, r⟩ := k h' x b kb E f1 f2 f3 f4 T' ⟨T'.vm, k1, locs, Y, hS, hk1, hZ', X5.trans hC, fun y hy => ⟨Nat.lt_of_lt_of_le (X6 y hy).1 E.1, hC.safe (X6 y hy).1 (X6 y hy).2⟩, eY, X8, fun q => by (rw [hnI] at q; cases q), Nat.le_trans X10.1 E.1, fun x c q => E.2 x c (X10.2 x c q)⟩
  exact ⟨s2, v', Lo, st _ g, r⟩
/-- the ends -/
theorem Run.ends (hK : Ok Z EL a0 l own nm bytes ml ret R K) {v : Option Value} (hv : ret = none → v = none) (hc : cl ≤ R.cells) (hs : sl ≤ R.slots)
    (f : ∀ T vm0 locs fs, Stand K.p K.l K.e K.R (K.s.setVm vm0) K.m K.as K.bl K.me K.c T locs cl sl → (∀ (f : JFrame) (acts : List Action), f.method = K.m → f.locked = none → f.entered = [] → (doReturn K.e (T.setTop f) acts v).1 = T.setFrames fs) → Steps K.p.tables K.e K.bl (T.setTop (mkF K.m pc L S)) (T.setFrames fs)) (hQ : Q v h) : Run Z EL nI K Q W h cl sl pc L S := fun T X => by
  obtain ⟨vm0, k0, locs, X1, X2, X3, X4, X5, X6, X7, X8, X9, X10⟩ := X
  obtain ⟨hx, -, rfl, -, -, rfl, hlk, -, -, hEL⟩ := id hK
  obtain ⟨fs, hr, hrun, hended, hW⟩ := X1.leaveW X2 (by rw [X7]; exact X3) (v := v) hv hlk
  have hh : (T.setFrames fs).heap = h := X7
  have B := CHv.at X1 X4 hEL X5.1
  obtain ⟨w1, w2, w3, w4⟩ := hW
  refine ⟨T.setFrames fs, v, locs, f T vm0 locs fs X1 hr, hrun, hended, by rw [hh]; exact hQ, X8, by rw [hh]; exact X5.trans B, ⟨w1, w2, w3, w4.mono hc hs⟩, fun q => State.WarmedH.trans (X9 q) X1.warmed, by rw [hh]; exact X10⟩
theorem Run.retw (hK : Ok Z EL a0 l own nm bytes ml (some ty) R K) {w : Value} {i : Instr} (hn : narrow ty w = w)
    (hi : (i = .ireturn ∧ (ty = .int ∨ ty = .boolean ∨ ty = .byte ∨ ty = .char ∨ ty = .short) ∧ ∃ z, w = .int z) ∨ (i = .lreturn ∧ ty = .long ∧ ∃ z, w = .long z) ∨ (i = .dreturn ∧ ty = .double ∧ ∃ z, w = .double z) ∨ (i = .freturn ∧ ty = .float ∧ ∃ z, w = .float z) ∨ (i = .areturn ∧ ty.isReference = true ∧ w.isRef = true))
    (hd : decode bytes pc = .ok (i, 1)) (hc : cl ≤ R.cells) (hs : sl ≤ R.slots) (hQ : Q (some w) h) : Run Z EL nI K Q W h cl sl pc L (w :: rest) :=
  Run.ends hK (v := some w) (fun q => by cases q) hc hs (fun T vm0 locs fs X hr => by
    obtain ⟨hx, rfl, rfl, rfl, rfl, hrt, -⟩ := id hK
    exact retOut X hx hrt hn hi hd hr) hQ
theorem Run.retv (hK : Ok Z EL a0 l own nm bytes ml none R K) (hd : decode bytes pc = .ok (.return_, 1)) (hc : cl ≤ R.cells) (hs : sl ≤ R.slots) (hQ : Q none h) : Run Z EL nI K Q W h cl sl pc L [] :=
  Run.ends hK (v := none) (fun _ => rfl) hc hs (fun T vm0 locs fs X hr => by
    obtain ⟨hx, rfl, rfl, rfl, rfl, hrt, -⟩ := id hK
    exact X.returnOut hx hrt hd hr) hQ
end Single
/-! plain steps, by evaluation -/
abbrev Fr3 : Type := Nat × Array Slot × List Value
def ldI (len n pc : Nat) (L : Array Slot) (S : List Value) (k : Nat) : Option Fr3 := if len = n then (match L[k]? with | some (.val (.int v)) => some (pc + n, L, .int v :: S) | _ => none) else none
def ldJ (len n pc : Nat) (L : Array Slot) (S : List Value) (k : Nat) : Option Fr3 := if len = n then (match L[k]? with | some (.val (.long v)) => some (pc + n, L, .long v :: S) | _ => none) else none
def ldA (len n pc : Nat) (L : Array Slot) (S : List Value) (k : Nat) : Option Fr3 := if len = n then (match L[k]? with | some (.val (.ref v)) => some (pc + n, L, .ref v :: S) | some (.val .null) => some (pc + n, L, .null :: S) | _ => none) else none
def stI' (len n pc : Nat) (L : Array Slot) (S : List Value) (k : Nat) : Option Fr3 := if len = n then (match S with | .int v :: r => (match storeLocals L k (.int v) with | some L' => some (pc + n, L', r) | none => none) | _ => none) else none
def stJ' (len n pc : Nat) (L : Array Slot) (S : List Value) (k : Nat) : Option Fr3 := if len = n then (match S with | .long v :: r => (match storeLocals L k (.long v) with | some L' => some (pc + n, L', r) | none => none) | _ => none) else none
def stA' (len n pc : Nat) (L : Array Slot) (S : List Value) (k : Nat) : Option Fr3 := if len = n then (match S with | .ref v :: r => (match storeLocals L k (.ref v) with | some L' => some (pc + n, L', r) | none => none) | .null :: r => (match storeLocals L k .null with | some L' => some (pc + n, L', r) | none => none) | _ => none) else none
def cst (len n pc : Nat) (L : Array Slot) (S : List Value) (v : Value) : Option Fr3 := if len = n then some (pc + n, L, v :: S) else none
def bI (len pc : Nat) (L : Array Slot) (S : List Value) (f : Int32 → Int32 → Int32) : Option Fr3 := if len = 1 then (match S with | .int y :: .int x :: r => some (pc + 1, L, .int (f x y) :: r) | _ => none) else none
def bI0 (len pc : Nat) (L : Array Slot) (S : List Value) (f : Int32 → Int32 → Int32) : Option Fr3 := if len = 1 then (match S with | .int y :: .int x :: r => if y = 0 then none else some (pc + 1, L, .int (f x y) :: r) | _ => none) else none
def bJ (len pc : Nat) (L : Array Slot) (S : List Value) (f : Int64 → Int64 → Int64) : Option Fr3 := if len = 1 then (match S with | .long y :: .long x :: r => some (pc + 1, L, .long (f x y) :: r) | _ => none) else none
def bJ0 (len pc : Nat) (L : Array Slot) (S : List Value) (f : Int64 → Int64 → Int64) : Option Fr3 := if len = 1 then (match S with | .long y :: .long x :: r => if y = 0 then none else some (pc + 1, L, .long (f x y) :: r) | _ => none) else none
def bS (len pc : Nat) (L : Array Slot) (S : List Value) (f : Int64 → Int32 → Int64) : Option Fr3 := if len = 1 then (match S with | .int y :: .long x :: r => some (pc + 1, L, .long (f x y) :: r) | _ => none) else none
def uI (len pc : Nat) (L : Array Slot) (S : List Value) (f : Int32 → Value) : Option Fr3 := if len = 1 then (match S with | .int x :: r => some (pc + 1, L, f x :: r) | _ => none) else none
def uJ (len pc : Nat) (L : Array Slot) (S : List Value) (f : Int64 → Value) : Option Fr3 := if len = 1 then (match S with | .long x :: r => some (pc + 1, L, f x :: r) | _ => none) else none
def cJ (len pc : Nat) (L : Array Slot) (S : List Value) : Option Fr3 := if len = 1 then (match S with | .long y :: .long x :: r => some (pc + 1, L, .int (XT.cmpL x y) :: r) | _ => none) else none
def one? : Value → Bool
  | .int _ => true
  | .ref _ => true
  | .null => true
  | _ => false
theorem one_cat {v : Value} (h : one? v = true) : v.category = 1 := by cases v <;> first | rfl | cases h
def dp (len pc : Nat) (L : Array Slot) (S : List Value) : Option Fr3 := if len = 1 then (match S with | x :: r => if one? x = true then some (pc + 1, L, x :: x :: r) else none | _ => none) else none
def dpx (len pc : Nat) (L : Array Slot) (S : List Value) : Option Fr3 := if len = 1 then (match S with | x :: y :: r => if one? x = true then (if one? y = true then some (pc + 1, L, x :: y :: x :: r) else none) else none | _ => none) else none
def dp2 (len pc : Nat) (L : Array Slot) (S : List Value) : Option Fr3 := if len = 1 then (match S with | x :: y :: r => if one? x = true then (if one? y = true then some (pc + 1, L, x :: y :: x :: y :: r) else none) else none | _ => none) else none
def pp (len pc : Nat) (L : Array Slot) (S : List Value) : Option Fr3 := if len = 1 then (match S with | x :: r => if one? x = true then some (pc + 1, L, r) else none | _ => none) else none
def inc (len pc : Nat) (L : Array Slot) (S : List Value) (k : Nat) (c : Int) : Option Fr3 := if len = 3 then (match L[k]? with | some (.val (.int v)) => (match storeLocals L k (.int (v + Int32.ofInt c)) with | some L' => some (pc + 3, L', S) | none => none) | _ => none) else none
def jmp (len pc : Nat) (L : Array Slot) (S : List Value) (o : Int) : Option Fr3 := if len = 3 then (if 0 ≤ (pc : Int) + o then some (((pc : Int) + o).toNat, L, S) else none) else none
def stp (i : Instr) (len pc : Nat) (L : Array Slot) (S : List Value) : Option Fr3 :=
  match i with
  | .iload_n k => ldI len 1 pc L S k.val
  | .iload k => ldI len 2 pc L S k
  | .lload_n k => ldJ len 1 pc L S k.val
  | .lload k => ldJ len 2 pc L S k
  | .aload_n k => ldA len 1 pc L S k.val
  | .aload k => ldA len 2 pc L S k
  | .istore_n k => stI' len 1 pc L S k.val
  | .istore k => stI' len 2 pc L S k
  | .lstore_n k => stJ' len 1 pc L S k.val
  | .lstore k => stJ' len 2 pc L S k
  | .astore_n k => stA' len 1 pc L S k.val
  | .astore k => stA' len 2 pc L S k
  | .iconst c => cst len 1 pc L S (.int (Int32.ofInt c))
  | .bipush c => cst len 2 pc L S (.int (Int8.ofInt c).toInt32)
  | .sipush c => cst len 3 pc L S (.int (Int16.ofInt c).toInt32)
  | .aconst_null => cst len 1 pc L S .null
  | .lconst k => cst len 1 pc L S (.long (Int64.ofNat k))
  | .iadd => bI len pc L S (· + ·)
  | .isub => bI len pc L S (· - ·)
  | .imul => bI len pc L S (· * ·)
  | .iand => bI len pc L S (· &&& ·)
  | .ior => bI len pc L S (· ||| ·)
  | .ixor => bI len pc L S (· ^^^ ·)
  | .ishl => bI len pc L S (fun x y => x <<< (y &&& 31))
  | .ishr => bI len pc L S (fun x y => x >>> (y &&& 31))
  | .iushr => bI len pc L S XT.ushr
  | .irem => bI0 len pc L S (· % ·)
  | .idiv => bI0 len pc L S (· / ·)
  | .ineg => uI len pc L S (fun x => .int (-x))
  | .ladd => bJ len pc L S (· + ·)
  | .lsub => bJ len pc L S (· - ·)
  | .land => bJ len pc L S (· &&& ·)
  | .lor => bJ len pc L S (· ||| ·)
  | .lushr => bS len pc L S XT.ushrL
  | .lshl => bS len pc L S (fun x y => x <<< (y.toInt64 &&& 63))
  | .lrem => bJ0 len pc L S (fun x y => x - (x / y) * y)
  | .i2l => uI len pc L S (fun x => .long x.toInt64)
  | .l2i => uJ len pc L S (fun x => .int x.toInt32)
  | .i2b => uI len pc L S (fun x => .int x.toInt8.toInt32)
  | .i2c => uI len pc L S (fun x => .int x.toUInt32.toUInt16.toUInt32.toInt32)
  | .lcmp => cJ len pc L S
  | .dup => dp len pc L S
  | .dup_x1 => dpx len pc L S
  | .dup2 => dp2 len pc L S
  | .pop => pp len pc L S
  | .iinc k c => inc len pc L S k c
  | .goto o => jmp len pc L S o
  | _ => none
def stq : List (Nat × Instr × Nat) → Nat → Array Slot → List Value → Option Fr3
  | [], pc, L, S => some (pc, L, S)
  | (p, i, len) :: r, pc, L, S => if p = pc then (match stp i len pc L S with | none => none | some (pc', L', S') => stq r pc' L' S') else none
section PlainSteps
variable {tb : Tables} [Ours tb] {e : Env} {below : List Frame} {T t : State} {m : MethodId} {c : Code} {pc pc' len : Nat} {L L' : Array Slot} {S S' : List Value} {i : Instr}
theorem ldI_s {n k : Nat} {r : Fr3} (h : ldI len n pc L S k = some r) : len = n ∧ ∃ v, L[k]? = some (.val (.int v)) ∧ r = (pc + n, L, .int v :: S) := by
  unfold ldI at h
  by_cases q : len = n
  · rw [if_pos q] at h
    split at h
    · rename_i v e; cases h; exact ⟨q, v, e, rfl⟩
    · cases h
  · rw [if_neg q] at h; cases h
theorem ldJ_s {n k : Nat} {r : Fr3} (h : ldJ len n pc L S k = some r) : len = n ∧ ∃ v, L[k]? = some (.val (.long v)) ∧ r = (pc + n, L, .long v :: S) := by
  unfold ldJ at h
  by_cases q : len = n
  · rw [if_pos q] at h
    split at h
    · rename_i v e; cases h; exact ⟨q, v, e, rfl⟩
    · cases h
  · rw [if_neg q] at h; cases h
theorem ldA_s {n k : Nat} {r : Fr3} (h : ldA len n pc L S k = some r) : len = n ∧ ∃ v : Value, v.isRef = true ∧ L[k]? = some (.val v) ∧ r = (pc + n, L, v :: S) := by
  unfold ldA at h
  by_cases q : len = n
  · rw [if_pos q] at h
    split at h
    · rename_i v e; cases h; exact ⟨q, _, rfl, e, rfl⟩
    · rename_i e; cases h; exact ⟨q, _, rfl, e, rfl⟩
    · cases h
  · rw [if_neg q] at h; cases h
theorem stI_s {n k : Nat} {r : Fr3} (h : stI' len n pc L S k = some r) : len = n ∧ ∃ v S' L', S = .int v :: S' ∧ storeLocals L k (.int v) = some L' ∧ r = (pc + n, L', S') := by
  unfold stI' at h
  by_cases q : len = n
  · rw [if_pos q] at h
    split at h
    · split at h
      · rename_i e; cases h; exact ⟨q, _, _, _, rfl, e, rfl⟩
      · cases h
    · cases h
  · rw [if_neg q] at h; cases h
theorem stJ_s {n k : Nat} {r : Fr3} (h : stJ' len n pc L S k = some r) : len = n ∧ ∃ v S' L', S = .long v :: S' ∧ storeLocals L k (.long v) = some L' ∧ r = (pc + n, L', S') := by
  unfold stJ' at h
  by_cases q : len = n
  · rw [if_pos q] at h
    split at h
    · split at h
      · rename_i e; cases h; exact ⟨q, _, _, _, rfl, e, rfl⟩
      · cases h
    · cases h
  · rw [if_neg q] at h; cases h
theorem stA_s {n k : Nat} {r : Fr3} (h : stA' len n pc L S k = some r) : len = n ∧ ∃ (v : Value) (S' : List Value) (L' : Array Slot), v.isRef = true ∧ S = v :: S' ∧ storeLocals L k v = some L' ∧ r = (pc + n, L', S') := by
  unfold stA' at h
  by_cases q : len = n
  · rw [if_pos q] at h
    split at h
    · split at h
      · rename_i e; cases h; exact ⟨q, _, _, _, rfl, rfl, e, rfl⟩
      · cases h
    · split at h
      · rename_i e; cases h; exact ⟨q, _, _, _, rfl, rfl, e, rfl⟩
      · cases h
    · cases h
  · rw [if_neg q] at h; cases h
theorem cst_s {n : Nat} {v : Value} {r : Fr3} (h : cst len n pc L S v = some r) : len = n ∧ r = (pc + n, L, v :: S) := by
  unfold cst at h
  by_cases q : len = n
  · rw [if_pos q] at h; cases h; exact ⟨q, rfl⟩
  · rw [if_neg q] at h; cases h
theorem bI_s {f : Int32 → Int32 → Int32} {r : Fr3} (h : bI len pc L S f = some r) : len = 1 ∧ ∃ x y S', S = .int y :: .int x :: S' ∧ r = (pc + 1, L, .int (f x y) :: S') := by
  unfold bI at h
  by_cases q : len = 1
  · rw [if_pos q] at h
    split at h
    · cases h; exact ⟨q, _, _, _, rfl, rfl⟩
    · cases h
  · rw [if_neg q] at h; cases h
theorem bI0_s {f : Int32 → Int32 → Int32} {r : Fr3} (h : bI0 len pc L S f = some r) : len = 1 ∧ ∃ x y S', ¬ y = 0 ∧ S = .int y :: .int x :: S' ∧ r = (pc + 1, L, .int (f x y) :: S') := by
  unfold bI0 at h
  by_cases q : len = 1
  · rw [if_pos q] at h
    split at h
    · split at h
      · cases h
      · rename_i q0; cases h; exact ⟨q, _, _, _, q0, rfl, rfl⟩
    · cases h
  · rw [if_neg q] at h; cases h
theorem bJ_s {f : Int64 → Int64 → Int64} {r : Fr3} (h : bJ len pc L S f = some r) : len = 1 ∧ ∃ x y S', S = .long y :: .long x :: S' ∧ r = (pc + 1, L, .long (f x y) :: S') := by
  unfold bJ at h
  by_cases q : len = 1
  · rw [if_pos q] at h
    split at h
    · cases h; exact ⟨q, _, _, _, rfl, rfl⟩
    · cases h
  · rw [if_neg q] at h; cases h
theorem bJ0_s {f : Int64 → Int64 → Int64} {r : Fr3} (h : bJ0 len pc L S f = some r) : len = 1 ∧ ∃ x y S', ¬ y = 0 ∧ S = .long y :: .long x :: S' ∧ r = (pc + 1, L, .long (f x y) :: S') := by
  unfold bJ0 at h
  by_cases q : len = 1
  · rw [if_pos q] at h
    split at h
    · split at h
      · cases h
      · rename_i q0; cases h; exact ⟨q, _, _, _, q0, rfl, rfl⟩
    · cases h
  · rw [if_neg q] at h; cases h
theorem bS_s {f : Int64 → Int32 → Int64} {r : Fr3} (h : bS len pc L S f = some r) : len = 1 ∧ ∃ x y S', S = .int y :: .long x :: S' ∧ r = (pc + 1, L, .long (f x y) :: S') := by
  unfold bS at h
  by_cases q : len = 1
  · rw [if_pos q] at h
    split at h
    · cases h; exact ⟨q, _, _, _, rfl, rfl⟩
    · cases h
  · rw [if_neg q] at h; cases h
theorem uI_s {f : Int32 → Value} {r : Fr3} (h : uI len pc L S f = some r) : len = 1 ∧ ∃ x S', S = .int x :: S' ∧ r = (pc + 1, L, f x :: S') := by
  unfold uI at h
  by_cases q : len = 1
  · rw [if_pos q] at h
    split at h
    · cases h; exact ⟨q, _, _, rfl, rfl⟩
    · cases h
  · rw [if_neg q] at h; cases h
theorem uJ_s {f : Int64 → Value} {r : Fr3} (h : uJ len pc L S f = some r) : len = 1 ∧ ∃ x S', S = .long x :: S' ∧ r = (pc + 1, L, f x :: S') := by
  unfold uJ at h
  by_cases q : len = 1
  · rw [if_pos q] at h
    split at h
    · cases h; exact ⟨q, _, _, rfl, rfl⟩
    · cases h
  · rw [if_neg q] at h; cases h
theorem cJ_s {r : Fr3} (h : cJ len pc L S = some r) : len = 1 ∧ ∃ x y S', S = .long y :: .long x :: S' ∧ r = (pc + 1, L, .int (XT.cmpL x y) :: S') := by
  unfold cJ at h
  by_cases q : len = 1
  · rw [if_pos q] at h
    split at h
    · cases h; exact ⟨q, _, _, _, rfl, rfl⟩
    · cases h
  · rw [if_neg q] at h; cases h
theorem dp_s {r : Fr3} (h : dp len pc L S = some r) : len = 1 ∧ ∃ x S', one? x = true ∧ S = x :: S' ∧ r = (pc + 1, L, x :: x :: S') := by
  unfold dp at h
  by_cases q : len = 1
  · rw [if_pos q] at h
    split at h
    · split at h
      · rename_i q0; cases h; exact ⟨q, _, _, q0, rfl, rfl⟩
      · cases h
    · cases h
  · rw [if_neg q] at h; cases h
theorem pp_s {r : Fr3} (h : pp len pc L S = some r) : len = 1 ∧ ∃ x S', one? x = true ∧ S = x :: S' ∧ r = (pc + 1, L, S') := by
  unfold pp at h
  by_cases q : len = 1
  · rw [if_pos q] at h
    split at h
    · split at h
      · rename_i q0; cases h; exact ⟨q, _, _, q0, rfl, rfl⟩
      · cases h
    · cases h
  · rw [if_neg q] at h; cases h
theorem dpx_s {r : Fr3} (h : dpx len pc L S = some r) : len = 1 ∧ ∃ x y S', one? x = true ∧ one? y = true ∧ S = x :: y :: S' ∧ r = (pc + 1, L, x :: y :: x :: S') := by
  unfold dpx at h
  by_cases q : len = 1
  · rw [if_pos q] at h
    split at h
    · split at h
      · rename_i q0
        split at h
        · rename_i q1; cases h; exact ⟨q, _, _, _, q0, q1, rfl, rfl⟩
        · cases h
      · cases h
    · cases h
  · rw [if_neg q] at h; cases h
theorem dp2_s {r : Fr3} (h : dp2 len pc L S = some r) : len = 1 ∧ ∃ x y S', one? x = true ∧ one? y = true ∧ S = x :: y :: S' ∧ r = (pc + 1, L, x :: y :: x :: y :: S') := by
  unfold dp2 at h
  by_cases q : len = 1
  · rw [if_pos q] at h
    split at h
    · split at h
      · rename_i q0
        split at h
        · rename_i q1; cases h; exact ⟨q, _, _, _, q0, q1, rfl, rfl⟩
        · cases h
      · cases h
    · cases h
  · rw [if_neg q] at h; cases h
theorem inc_s {k : Nat} {d : Int} {r : Fr3} (h : inc len pc L S k d = some r) : len = 3 ∧ ∃ v L', L[k]? = some (.val (.int v)) ∧ storeLocals L k (.int (v + Int32.ofInt d)) = some L' ∧ r = (pc + 3, L', S) := by
  unfold inc at h
  by_cases q : len = 3
  · rw [if_pos q] at h
    split at h
    · rename_i v e
      split at h
      · rename_i e2; cases h; exact ⟨q, _, _, e, e2, rfl⟩
      · cases h
    · cases h
  · rw [if_neg q] at h; cases h
theorem jmp_s {o : Int} {r : Fr3} (h : jmp len pc L S o = some r) : len = 3 ∧ 0 ≤ (pc : Int) + o ∧ r = (((pc : Int) + o).toNat, L, S) := by
  unfold jmp at h
  by_cases q : len = 3
  · rw [if_pos q] at h
    split at h
    · rename_i q0; cases h; exact ⟨q, q0, rfl⟩
    · cases h
  · rw [if_neg q] at h; cases h
set_option maxHeartbeats 4000000 in
theorem stp_ok (h : At T m c below) (hx : tb.exec = Jvm.exec) (hd : decode c.code pc = .ok (i, len)) (hs : stp i len pc L S = some (pc', L', S')) (st : Steps tb e below (T.setTop (mkF m pc' L' S')) t) : Steps tb e below (T.setTop (mkF m pc L S)) t := by
  unfold stp at hs
  split at hs
  case h_1 => obtain ⟨rfl, v, e1, e2⟩ := ldI_s hs; cases e2; exact XS.iloadN h hx rfl hd e1 st
  case h_2 => obtain ⟨rfl, v, e1, e2⟩ := ldI_s hs; cases e2; exact XS.iload h hx rfl hd e1 st
  case h_3 => obtain ⟨rfl, v, e1, e2⟩ := ldJ_s hs; cases e2; exact XT.lloadN h hx rfl hd e1 st
  case h_4 => obtain ⟨rfl, v, e1, e2⟩ := ldJ_s hs; cases e2; exact XT.lload h hx rfl hd e1 st
  case h_5 => obtain ⟨rfl, v, e0, e1, e2⟩ := ldA_s hs; cases e2; exact XS.aloadN h hx rfl hd e1 e0 st
  case h_6 => obtain ⟨rfl, v, e0, e1, e2⟩ := ldA_s hs; cases e2; exact XS.aload h hx rfl hd e1 e0 st
  case h_7 => obtain ⟨rfl, v, S1, L1, rfl, e1, e2⟩ := stI_s hs; cases e2; exact XS.istoreN h hx rfl hd rfl e1 st
  case h_8 => obtain ⟨rfl, v, S1, L1, rfl, e1, e2⟩ := stI_s hs; cases e2; exact XS.istore h hx rfl hd rfl e1 st
  case h_9 => obtain ⟨rfl, v, S1, L1, rfl, e1, e2⟩ := stJ_s hs; cases e2; exact XT.lstoreN h hx rfl hd rfl e1 st
  case h_10 => obtain ⟨rfl, v, S1, L1, rfl, e1, e2⟩ := stJ_s hs; cases e2; exact XT.lstore h hx rfl hd rfl e1 st
  case h_11 => obtain ⟨rfl, v, S1, L1, e0, rfl, e1, e2⟩ := stA_s hs; cases e2; exact XS.astoreN h hx rfl hd rfl e0 e1 st
  case h_12 => obtain ⟨rfl, v, S1, L1, e0, rfl, e1, e2⟩ := stA_s hs; cases e2; exact XS.astore h hx rfl hd rfl e0 e1 st
  case h_13 => obtain ⟨rfl, e2⟩ := cst_s hs; cases e2; exact XS.iconst h hx rfl hd st
  case h_14 => obtain ⟨rfl, e2⟩ := cst_s hs; cases e2; exact XS.bipush h hx rfl hd st
  case h_15 => obtain ⟨rfl, e2⟩ := cst_s hs; cases e2; exact XS.sipush h hx rfl hd st
  case h_16 => obtain ⟨rfl, e2⟩ := cst_s hs; cases e2; exact XS.aconstNull h hx rfl hd st
  case h_17 => obtain ⟨rfl, e2⟩ := cst_s hs; cases e2; exact XT.lconst h hx rfl hd st
  case h_18 => obtain ⟨rfl, x, y, S1, rfl, e2⟩ := bI_s hs; cases e2; exact XS.iadd h hx rfl hd rfl st
  case h_19 => obtain ⟨rfl, x, y, S1, rfl, e2⟩ := bI_s hs; cases e2; exact XS.isub h hx rfl hd rfl st
  case h_20 => obtain ⟨rfl, x, y, S1, rfl, e2⟩ := bI_s hs; cases e2; exact XS.imul h hx rfl hd rfl st
  case h_21 => obtain ⟨rfl, x, y, S1, rfl, e2⟩ := bI_s hs; cases e2; exact XS.iand h hx rfl hd rfl st
  case h_22 => obtain ⟨rfl, x, y, S1, rfl, e2⟩ := bI_s hs; cases e2; exact XT.ior h hx rfl hd rfl st
  case h_23 => obtain ⟨rfl, x, y, S1, rfl, e2⟩ := bI_s hs; cases e2; exact XT.ixor h hx rfl hd rfl st
  case h_24 => obtain ⟨rfl, x, y, S1, rfl, e2⟩ := bI_s hs; cases e2; exact XT.ishl h hx rfl hd rfl st
  case h_25 => obtain ⟨rfl, x, y, S1, rfl, e2⟩ := bI_s hs; cases e2; exact XT.ishr h hx rfl hd rfl st
  case h_26 => obtain ⟨rfl, x, y, S1, rfl, e2⟩ := bI_s hs; cases e2; exact XT.iushr h hx rfl hd rfl st
  case h_27 => obtain ⟨rfl, x, y, S1, q0, rfl, e2⟩ := bI0_s hs; cases e2; refine XS.irem h hx rfl hd rfl q0 ?_; have q1 : x - x / y * y = x % y := irem_eq_mod x y; rw [q1]; exact st
  case h_28 => obtain ⟨rfl, x, y, S1, q0, rfl, e2⟩ := bI0_s hs; cases e2; exact XS.idiv h hx rfl hd rfl q0 st
  case h_29 => obtain ⟨rfl, x, S1, rfl, e2⟩ := uI_s hs; cases e2; exact XS.ineg h hx rfl hd rfl st
  case h_30 => obtain ⟨rfl, x, y, S1, rfl, e2⟩ := bJ_s hs; cases e2; exact XT.ladd h hx rfl hd rfl st
  case h_31 => obtain ⟨rfl, x, y, S1, rfl, e2⟩ := bJ_s hs; cases e2; exact XT.lsub h hx rfl hd rfl st
  case h_32 => obtain ⟨rfl, x, y, S1, rfl, e2⟩ := bJ_s hs; cases e2; exact XT.land h hx rfl hd rfl st
  case h_33 => obtain ⟨rfl, x, y, S1, rfl, e2⟩ := bJ_s hs; cases e2; exact XT.lor h hx rfl hd rfl st
  case h_34 => obtain ⟨rfl, x, y, S1, rfl, e2⟩ := bS_s hs; cases e2; exact XT.lushr h hx rfl hd rfl st
  case h_35 => obtain ⟨rfl, x, y, S1, rfl, e2⟩ := bS_s hs; cases e2; exact XT.lshl h hx rfl hd rfl st
  case h_36 => obtain ⟨rfl, x, y, S1, q0, rfl, e2⟩ := bJ0_s hs; cases e2; exact XT.lrem h hx rfl hd rfl q0 st
  case h_37 => obtain ⟨rfl, x, S1, rfl, e2⟩ := uI_s hs; cases e2; exact XT.i2l h hx rfl hd rfl st
  case h_38 => obtain ⟨rfl, x, S1, rfl, e2⟩ := uJ_s hs; cases e2; exact XT.l2i h hx rfl hd rfl st
  case h_39 => obtain ⟨rfl, x, S1, rfl, e2⟩ := uI_s hs; cases e2; exact XT.i2b h hx rfl hd rfl st
  case h_40 => obtain ⟨rfl, x, S1, rfl, e2⟩ := uI_s hs; cases e2; exact XT.i2c h hx rfl hd rfl st
  case h_41 => obtain ⟨rfl, x, y, S1, rfl, e2⟩ := cJ_s hs; cases e2; exact XT.lcmp h hx rfl hd rfl st
  case h_42 => obtain ⟨rfl, x, S1, q0, rfl, e2⟩ := dp_s hs; cases e2; exact XS.dup h hx rfl hd rfl (one_cat q0) st
  case h_43 => obtain ⟨rfl, x, y, S1, q0, q1, rfl, e2⟩ := dpx_s hs; cases e2; exact XT.dupX1 h hx rfl hd rfl (one_cat q0) (one_cat q1) st
  case h_44 => obtain ⟨rfl, x, y, S1, q0, q1, rfl, e2⟩ := dp2_s hs; cases e2; exact XT.dup2 h hx rfl hd rfl (one_cat q0) (one_cat q1) st
  case h_45 => obtain ⟨rfl, x, S1, q0, rfl, e2⟩ := pp_s hs; cases e2; exact XT.pop h hx rfl hd rfl (one_cat q0) st
  case h_46 => obtain ⟨rfl, v, L1, e0, e1, e2⟩ := inc_s hs; cases e2; exact XS.iinc h hx rfl hd e0 e1 st
  case h_47 => obtain ⟨rfl, q0, e2⟩ := jmp_s hs; cases e2; exact XS.goto h hx rfl rfl hd q0 rfl st
  case h_48 => cases hs
theorem stq_nil {r : Fr3} (h : stq [] pc L S = some r) : r = (pc, L, S) := (Option.some.inj h).symm
theorem stq_cons {p : Nat} {seg : List (Nat × Instr × Nat)} {r : Fr3} (h : stq ((p, i, len) :: seg) pc L S = some r) : p = pc ∧ ∃ pc1 L1 S1, stp i len pc L S = some (pc1, L1, S1) ∧ stq seg pc1 L1 S1 = some r := by
  have e : stq ((p, i, len) :: seg) pc L S = if p = pc then (match stp i len pc L S with | none => none | some (pc', L', S') => stq seg pc' L' S') else none := rfl
  rw [e] at h
  by_cases q : p = pc
  · rw [if_pos q] at h
    cases e1 : stp i len pc L S with
    | none => rw [e1] at h; cases h
    | some x => obtain ⟨pc1, L1, S1⟩ := x; rw [e1] at h; exact ⟨q, pc1, L1, S1, rfl, h⟩
  · rw [if_neg q] at h; cases h
theorem stq_ok (h : At T m c below) (hx : tb.exec = Jvm.exec) (seg : List (Nat × Instr × Nat)) : ∀ (pc : Nat) (L : Array Slot) (S : List Value), (∀ x ∈ seg, decode c.code x.1 = .ok x.2) → stq seg pc L S = some (pc', L', S') → Steps tb e below (T.setTop (mkF m pc' L' S')) t → Steps tb e below (T.setTop (mkF m pc L S)) t := by
  induction seg with
  | nil =>
    intro pc L S _ hs st
    have e := stq_nil hs
    simp only [Prod.mk.injEq] at e
    obtain ⟨rfl, rfl, rfl⟩ := e
    exact st
  | cons a r ih =>
    intro pc L S hseg hs st
    obtain ⟨p, i, len⟩ := a
    obtain ⟨rfl, pc1, L1, S1, e1, e2⟩ := stq_cons hs
    have hd := hseg _ (List.mem_cons_self ..)
    have hr := ih pc1 L1 S1 (fun x hm => hseg x (List.mem_cons_of_mem _ hm)) e2 st
    exact stp_ok h hx hd e1 hr
end PlainSteps
section Branches
variable {Z : State} {EL : List (String × Nat)} {nI : Bool} {a0 : Array Value} {l : Launch} {own nm : String} {bytes : ByteArray} {ml : Nat} {ret : Option FieldType} {R : Room} {K : Kx} {Q : Option Value → Heap → Prop} {W : List Addr} {h : Heap} {cl sl pc pc' : Nat} {L L' : Array Slot} {S S' rest : List Value} {x y : Int32} {o : Int} {a : Addr}
def segOk (bytes : ByteArray) (seg : List (Nat × Instr × Nat)) : Bool := seg.all fun x => decide (decode bytes x.1 = .ok x.2)
theorem Run.pure (hK : Ok Z EL a0 l own nm bytes ml ret R K) {seg : List (Nat × Instr × Nat)} (hseg : segOk bytes seg = true) (hs : stq seg pc L S = some (pc', L', S')) (k : Run Z EL nI K Q W h cl sl pc' L' S') : Run Z EL nI K Q W h cl sl pc L S := by
  obtain ⟨hx, rfl, rfl, rfl, rfl, -⟩ := id hK
  refine Run.step hK (fun T X t st => stq_ok X hx seg pc L S (fun x hm => ?_) hs st) k
  exact of_decide_eq_true (List.all_eq_true.mp hseg x hm)
theorem Run.icmp (hK : Ok Z EL a0 l own nm bytes ml ret R K) {cd : ClassFile.Cond} (hd : decode bytes pc = .ok (.if_icmp cd o, 3)) (ho : 0 ≤ (pc : Int) + o) (hp : ((pc : Int) + o).toNat = pc')
    (kY : if_icmp.holds cd x y = true → Run Z EL nI K Q W h cl sl pc' L rest) (kN : if_icmp.holds cd x y = false → Run Z EL nI K Q W h cl sl (pc + 3) L rest) : Run Z EL nI K Q W h cl sl pc L (.int y :: .int x :: rest) := by
  obtain ⟨hx, rfl, rfl, rfl, rfl, -⟩ := id hK
  cases hc : if_icmp.holds cd x y
  · exact Run.step hK (fun T X t st => XS.icmpNo X hx rfl hd rfl hc st) (kN hc)
  · exact Run.step hK (fun T X t st => XS.icmpYes X hx rfl (pc0 := pc) rfl hd rfl hc ho hp st) (kY hc)
theorem Run.ifz (hK : Ok Z EL a0 l own nm bytes ml ret R K) {cd : ClassFile.Cond} (hd : decode bytes pc = .ok (.ifCond cd o, 3)) (ho : 0 ≤ (pc : Int) + o) (hp : ((pc : Int) + o).toNat = pc')
    (kY : if_icmp.holds cd x 0 = true → Run Z EL nI K Q W h cl sl pc' L rest) (kN : if_icmp.holds cd x 0 = false → Run Z EL nI K Q W h cl sl (pc + 3) L rest) : Run Z EL nI K Q W h cl sl pc L (.int x :: rest) := by
  obtain ⟨hx, rfl, rfl, rfl, rfl, -⟩ := id hK
  cases hc : if_icmp.holds cd x 0
  · exact Run.step hK (fun T X t st => XS.ifNo X hx rfl hd rfl (by rw [if0]; exact hc) st) (kN hc)
  · exact Run.step hK (fun T X t st => XS.ifYes X hx rfl (pc0 := pc) rfl hd rfl (by rw [if0]; exact hc) ho hp st) (kY hc)
theorem h_eq (x y : Int32) : (if_icmp.holds .eq x y = true → x = y) ∧ (if_icmp.holds .eq x y = false → ¬ x = y) := by
  by_cases q : x = y
  · refine ⟨fun _ => q, fun z => ?_⟩; rw [(teq q).1] at z; cases z
  · refine ⟨fun z => ?_, fun _ => q⟩; rw [(feq q).1] at z; cases z
theorem h_ne (x y : Int32) : (if_icmp.holds .ne x y = true → ¬ x = y) ∧ (if_icmp.holds .ne x y = false → x = y) := by
  by_cases q : x = y
  · refine ⟨fun z => ?_, fun _ => q⟩; rw [(teq q).2] at z; cases z
  · refine ⟨fun _ => q, fun z => ?_⟩; rw [(feq q).2] at z; cases z
theorem h_lt (x y : Int32) : (if_icmp.holds .lt x y = true → x < y) ∧ (if_icmp.holds .lt x y = false → ¬ x < y) := by
  by_cases q : x < y
  · refine ⟨fun _ => q, fun z => ?_⟩; rw [(tlt q).1] at z; cases z
  · refine ⟨fun z => ?_, fun _ => q⟩; rw [(flt q).1] at z; cases z
theorem h_ge (x y : Int32) : (if_icmp.holds .ge x y = true → ¬ x < y) ∧ (if_icmp.holds .ge x y = false → x < y) := by
  by_cases q : x < y
  · refine ⟨fun z => ?_, fun _ => q⟩; rw [(tlt q).2.1] at z; cases z
  · refine ⟨fun _ => q, fun z => ?_⟩; rw [(flt q).2.1] at z; cases z
theorem h_gt (x y : Int32) : (if_icmp.holds .gt x y = true → y < x) ∧ (if_icmp.holds .gt x y = false → ¬ y < x) := by
  by_cases q : y < x
  · refine ⟨fun _ => q, fun z => ?_⟩; rw [(tlt q).2.2.1] at z; cases z
  · refine ⟨fun z => ?_, fun _ => q⟩; rw [(flt q).2.2.1] at z; cases z
theorem h_le (x y : Int32) : (if_icmp.holds .le x y = true → ¬ y < x) ∧ (if_icmp.holds .le x y = false → y < x) := by
  by_cases q : y < x
  · refine ⟨fun z => ?_, fun _ => q⟩; rw [(tlt q).2.2.2] at z; cases z
  · refine ⟨fun _ => q, fun z => ?_⟩; rw [(flt q).2.2.2] at z; cases z
theorem Run.ifn (hK : Ok Z EL a0 l own nm bytes ml ret R K) (hd : decode bytes pc = .ok (.ifnull o, 3)) (ho : 0 ≤ (pc : Int) + o) (hp : ((pc : Int) + o).toNat = pc') (k : Run Z EL nI K Q W h cl sl pc' L rest) : Run Z EL nI K Q W h cl sl pc L (.null :: rest) := by
  obtain ⟨hx, rfl, rfl, rfl, rfl, -⟩ := id hK
  exact Run.step hK (fun T X t st => XS.ifnullYes X hx rfl (pc0 := pc) rfl hd rfl ho hp st) k
theorem Run.ifr (hK : Ok Z EL a0 l own nm bytes ml ret R K) (hd : decode bytes pc = .ok (.ifnull o, 3)) (k : Run Z EL nI K Q W h cl sl (pc + 3) L rest) : Run Z EL nI K Q W h cl sl pc L (.ref a :: rest) := by
  obtain ⟨hx, rfl, rfl, rfl, rfl, -⟩ := id hK
  exact Run.step hK (fun T X t st => XS.ifnullNo X hx rfl hd rfl st) k
theorem Run.ifnnr (hK : Ok Z EL a0 l own nm bytes ml ret R K) (hd : decode bytes pc = .ok (.ifnonnull o, 3)) (ho : 0 ≤ (pc : Int) + o) (hp : ((pc : Int) + o).toNat = pc') (k : Run Z EL nI K Q W h cl sl pc' L rest) : Run Z EL nI K Q W h cl sl pc L (.ref a :: rest) := by
  obtain ⟨hx, rfl, rfl, rfl, rfl, -⟩ := id hK
  exact Run.step hK (fun T X t st => XT.ifnonnullYes X hx rfl (pc0 := pc) rfl hd rfl ho hp st) k
theorem Run.ifnnn (hK : Ok Z EL a0 l own nm bytes ml ret R K) (hd : decode bytes pc = .ok (.ifnonnull o, 3)) (k : Run Z EL nI K Q W h cl sl (pc + 3) L rest) : Run Z EL nI K Q W h cl sl pc L (.null :: rest) := by
  obtain ⟨hx, rfl, rfl, rfl, rfl, -⟩ := id hK
  exact Run.step hK (fun T X t st => XT.ifnonnullNo X hx rfl hd rfl st) k
theorem Run.cast (hK : Ok Z EL a0 l own nm bytes ml ret R K) {Kc : String} {index : Nat} (w : (Jvm.Cond.classLink own index Kc).before a0 Z = true) (F : Ins Z h a Kc true) (hd : decode bytes pc = .ok (.checkcast index, 3)) (k : Run Z EL nI K Q W h cl sl (pc + 3) L (.ref a :: rest)) : Run Z EL nI K Q W h cl sl pc L (.ref a :: rest) := by
  obtain ⟨hx, rfl, rfl, rfl, rfl, -⟩ := id hK
  refine Run.same hK (fun T vm0 locs X hZ hown e => ?_) k
  exact castY X hx hZ hown w e F (g := mkF K.m pc L (.ref a :: rest)) rfl rfl hd
theorem Run.castn (hK : Ok Z EL a0 l own nm bytes ml ret R K) {index : Nat} (hd : decode bytes pc = .ok (.checkcast index, 3)) (k : Run Z EL nI K Q W h cl sl (pc + 3) L (.null :: rest)) : Run Z EL nI K Q W h cl sl pc L (.null :: rest) := by
  obtain ⟨hx, rfl, rfl, rfl, rfl, -⟩ := id hK
  refine Run.same hK (fun T vm0 locs X hZ hown e => ⟨T, X, e, ?_⟩) k
  exact X.checkcastNull hx (g := mkF K.m pc L (.null :: rest)) rfl rfl hd
theorem Run.instY (hK : Ok Z EL a0 l own nm bytes ml ret R K) {Kc : String} {index : Nat} (w : (Jvm.Cond.classLink own index Kc).before a0 Z = true) (F : Ins Z h a Kc true) (hd : decode bytes pc = .ok (.instanceof index, 3)) (k : Run Z EL nI K Q W h cl sl (pc + 3) L (.int 1 :: rest)) : Run Z EL nI K Q W h cl sl pc L (.ref a :: rest) := by
  obtain ⟨hx, rfl, rfl, rfl, rfl, -⟩ := id hK
  refine Run.same hK (fun T vm0 locs X hZ hown e => ?_) k
  exact Jvm.RoadKit.instY X hx hZ hown w e F (g := mkF K.m pc L (.ref a :: rest)) rfl rfl hd
theorem Run.instN (hK : Ok Z EL a0 l own nm bytes ml ret R K) {Kc C : String} {index : Nat} (w : (Jvm.Cond.classLink own index Kc).before a0 Z = true) (F : Ins Z h a Kc false) (E : Exa Z h a C) (hd : decode bytes pc = .ok (.instanceof index, 3)) (k : Run Z EL nI K Q W h cl sl (pc + 3) L (.int 0 :: rest)) : Run Z EL nI K Q W h cl sl pc L (.ref a :: rest) := by
  obtain ⟨hx, rfl, rfl, rfl, rfl, -⟩ := id hK
  refine Run.same hK (fun T vm0 locs X hZ hown e => ?_) k
  obtain ⟨cell, cT, h1, h2, h3⟩ := F
  obtain ⟨cell', kc, e1, -, e3, e4, -⟩ := E
  cases h1.symm.trans e1
  obtain ⟨k', q, -⟩ := hZ.alike.2.2 _ _ e3
  obtain ⟨vm', X', st⟩ := Jvm.Sym.instanceofNoAt X hx hown (mvT hZ w) (by rw [e]; exact h1) e4 q (by rw [hZ.alike.findClass]; exact h2) (by rw [hZ.alike.assignable]; simpa [e4] using h3) (g := mkF K.m pc L (.ref a :: rest)) rfl rfl hd
  exact ⟨_, X', e, st⟩
theorem Run.instNull (hK : Ok Z EL a0 l own nm bytes ml ret R K) {index : Nat} (hd : decode bytes pc = .ok (.instanceof index, 3)) (k : Run Z EL nI K Q W h cl sl (pc + 3) L (.int 0 :: rest)) : Run Z EL nI K Q W h cl sl pc L (.null :: rest) := by
  obtain ⟨hx, rfl, rfl, rfl, rfl, -⟩ := id hK
  refine Run.same hK (fun T vm0 locs X hZ hown e => ⟨T, X, e, ?_⟩) k
  exact X.instanceofNull hx (g := mkF K.m pc L (.null :: rest)) rfl rfl hd
/-- if_acmp: same: whether the two are one -/
theorem Run.acmp (hK : Ok Z EL a0 l own nm bytes ml ret R K) {cd : ACond} {u v : Value} (h1 : u.isRef = true) (h2 : v.isRef = true) {same : Bool} (hq : decide (u = v) = same) (hd : decode bytes pc = .ok (.if_acmp cd o, 3)) (ho : 0 ≤ (pc : Int) + o) (hp : pc' = if acV cd same = true then ((pc : Int) + o).toNat else pc + 3)
    (k : Run Z EL nI K Q W h cl sl pc' L rest) : Run Z EL nI K Q W h cl sl pc L (v :: u :: rest) := by
  obtain ⟨hx, rfl, rfl, rfl, rfl, -⟩ := id hK
  refine Run.same hK (fun T vm0 locs X hZ hown e => ⟨T, X, e, fun t st => ?_⟩) k
  exact Jvm.RoadKit.acmp X hx (g := mkF K.m pc L (v :: u :: rest)) rfl h1 h2 (pc0 := pc) rfl hd rfl hq ho hp st
theorem Run.irem (hK : Ok Z EL a0 l own nm bytes ml ret R K) (hd : decode bytes pc = .ok (.irem, 1)) (hy : y ≠ 0) (k : Run Z EL nI K Q W h cl sl (pc + 1) L (.int (x % y) :: rest)) : Run Z EL nI K Q W h cl sl pc L (.int y :: .int x :: rest) := by
  obtain ⟨hx, rfl, rfl, rfl, rfl, -⟩ := id hK
  refine Run.same hK (fun T vm0 locs X hZ hown e => ⟨T, X, e, fun t st => ?_⟩) k
  exact iremM X hx (g := mkF K.m pc L (.int y :: .int x :: rest)) rfl hd rfl hy st
end Branches
end Jvm.OwnK
namespace Jvm.OwnK
open Sem ClassFile Op Lib Jvm.RoadKit
theorem tI0 : (0 : Int32).toInt = 0 := rfl
theorem c16 {x : Int32} (h0 : ¬ x < 0) (h1 : ¬ (65535 : Int32) < x) : x.toUInt32.toUInt16.toUInt32.toInt32 = x := by
  have q := c_i2c x
  rw [Int32.lt_iff_toInt_lt] at h0 h1
  have e1 : (0 : Int32).toInt = 0 := rfl
  have e2 : (65535 : Int32).toInt = 65535 := rfl
  apply Int32.toInt_inj.mp; omega
theorem lt255 {x : Int32} (h : ¬ (255 : Int32) < x) : ¬ (65535 : Int32) < x := fun q => h (Int32.lt_trans (by decide) q)
/-- a char below 256, as i2c, castore and ireturn leave it -/
theorem nc {x : Int32} (h : ¬ x < 0 ∧ ¬ (255 : Int32) < x) : nar .char x = x := c16 h.1 (lt255 h.2)
theorem nrc {x : Int32} (h : ¬ x < 0 ∧ ¬ (255 : Int32) < x) : narrow .char (.int x) = .int x := by rw [show narrow .char (.int x) = .int x.toUInt32.toUInt16.toUInt32.toInt32 from rfl, c16 h.1 (lt255 h.2)]
theorem m255 (x : Int32) : ¬ (x &&& 255) < 0 ∧ ¬ (255 : Int32) < (x &&& 255) := by
  have q := c_and x 255 (by decide)
  have e2 : (255 : Int32).toInt = 255 := rfl
  rw [Int32.lt_iff_toInt_lt, Int32.lt_iff_toInt_lt, tI0, e2]; omega
theorem i2c255 (x : Int32) : (x &&& (255 : Int32)).toUInt32.toUInt16.toUInt32.toInt32 = x &&& 255 := c16 (m255 x).1 (lt255 (m255 x).2)
theorem ofN {n : Nat} (h : n ≤ 4000) : (Int32.ofNat n).toInt = n := Int32.toInt_ofNat_small (by omega)
theorem ofN_lt {n : Nat} (h : n ≤ 4000) {k : Int32} {m : Nat} (hk : k.toInt = m) : Int32.ofNat n < k ↔ n < m := by rw [Int32.lt_iff_toInt_lt, ofN h, hk]; omega
theorem ofN_sub {n m : Nat} (h : n ≤ 4000) (hm : m ≤ n) : Int32.ofNat n - Int32.ofNat m = Int32.ofNat (n - m) := by
  apply Int32.toInt_inj.mp
  have q := c_isub (Int32.ofNat n) (Int32.ofNat m)
  have r := rng32 (Int32.ofNat n - Int32.ofNat m)
  rw [ofN h, ofN (by omega)] at q
  rw [ofN (by omega)]; omega
theorem ofN_add {n m : Nat} (h : n + m ≤ 4000) : Int32.ofNat n + Int32.ofNat m = Int32.ofNat (n + m) := by
  apply Int32.toInt_inj.mp
  have q := c_iadd (Int32.ofNat n) (Int32.ofNat m)
  have r := rng32 (Int32.ofNat n + Int32.ofNat m)
  rw [ofN (by omega), ofN (by omega)] at q
  rw [ofN h]; omega
end Jvm.OwnK
namespace Jvm.OwnK
open Sem ClassFile Op Lib Jvm.Free Jvm.RoadKit
section Facts
variable {Z : State} {a0 : Array Value} {h h1 h2 : Heap} {a : Addr} {C K O : String} {n : Nat} {ws : List Addr}
theorem Ext.tr (E : Ext h h1) (F : Ext h1 h2) : Ext h h2 := ⟨Nat.le_trans E.1 F.1, fun x c q => F.2 x c (E.2 x c q)⟩
theorem Ext.rf : Ext h h := ⟨Nat.le_refl _, fun _ _ q => q⟩
theorem ext_keep (E : Ext h h1) (F : Keep h1 h2 ws) (hn : ∀ x ∈ ws, h.size ≤ x) : Ext h h2 := ⟨Nat.le_trans E.1 F.1, fun x c q => F.2.1 x c (E.2 x c q) fun hm => absurd (Array.getElem?_eq_some_iff.mp q).1 (Nat.not_lt.mpr (hn x hm))⟩
theorem ext_wr (E : Ext h h1) {i : Nat} {v : Value} (F : Wr h1 h2 a i v) (hn : h.size ≤ a) : Ext h h2 := ext_keep E (Keep.of_wr F) (fun x hx => by cases List.mem_singleton.mp hx; exact hn)
/-- an object of C is none of K: C's superclass is O, which has none -/
theorem ins_no (w1 : (Jvm.Cond.superclass C O).before a0 Z = true) (w2 : (Jvm.Cond.noSuperclass O).before a0 Z = true) (wi : (Jvm.Cond.instantiable K n).before a0 Z = true) (g1 : C ≠ K) (g2 : O ≠ K) (E : Exa Z h a C) : Ins Z h a K false := by
  obtain ⟨t, kt, t1, t2, t3, t4, -⟩ := Cond.instantiable_spec wi
  obtain ⟨c, h0⟩ := found_sup w1
  obtain ⟨p, k, kp, s1, s2, s3, s4, s5, s6, s7⟩ := Cond.superclass_spec h0 w1
  obtain ⟨p', kp', r1, r2, r3, r4, r5⟩ := Cond.noSuperclass_spec w2
  cases s1.symm.trans r1
  obtain ⟨cell, kc, e1, e2, e3, e4, -⟩ := E
  cases h0.symm.trans e2
  have n1 := ids_ne h0 t1 g1
  have n2 := ids_ne s1 t1 g2
  have n3 : ∀ fuel, Z.vm.isSubclassAux fuel p t = false := fun fuel => by
    cases fuel with
    | zero => rfl
    | succ f => simp [Vm.isSubclassAux, n2, r2, r3]
  have n4 : ∀ fuel, Z.vm.isSubclassAux fuel cell.cls t = false := fun fuel => by
    cases fuel with
    | zero => rfl
    | succ f => simp [Vm.isSubclassAux, n1, s2, s4, n3]
  have ti : kt.isInterface = false := by cases q : kt.isInterface <;> simp [q] at t4 ⊢
  refine ⟨cell, t, e1, t1, ?_⟩
  have : Z.vm.assignable cell.cls t = false := by
    show Z.vm.assignableAux (255 + 1) cell.cls t = false
    simp [Vm.assignableAux, n1, s2, t2, s5, t3, ti, Vm.isSubclass, n4]
  rw [this]; simp
/-- .. C's superclass is D, D's is O, which has none -/
theorem ins_no2 {D : String} (w0 : (Jvm.Cond.superclass C D).before a0 Z = true) (w1 : (Jvm.Cond.superclass D O).before a0 Z = true) (w2 : (Jvm.Cond.noSuperclass O).before a0 Z = true) (wi : (Jvm.Cond.instantiable K n).before a0 Z = true) (g0 : C ≠ K) (g1 : D ≠ K) (g2 : O ≠ K) (E : Exa Z h a C) : Ins Z h a K false := by
  obtain ⟨t, kt, t1, t2, t3, t4, -⟩ := Cond.instantiable_spec wi
  obtain ⟨c, h0⟩ := found_sup w0
  obtain ⟨d, k0, kd, u1, u2, u3, u4, u5, u6, u7⟩ := Cond.superclass_spec h0 w0
  obtain ⟨p, k, kp, s1, s2, s3, s4, s5, s6, s7⟩ := Cond.superclass_spec u1 w1
  obtain ⟨p', kp', r1, r2, r3, r4, r5⟩ := Cond.noSuperclass_spec w2
  cases s1.symm.trans r1
  obtain ⟨cell, kc, e1, e2, e3, e4, -⟩ := E
  cases h0.symm.trans e2
  have n0 := ids_ne h0 t1 g0
  have n1 := ids_ne u1 t1 g1
  have n2 := ids_ne s1 t1 g2
  have n3 : ∀ fuel, Z.vm.isSubclassAux fuel p t = false := fun fuel => by
    cases fuel with
    | zero => rfl
    | succ f => simp [Vm.isSubclassAux, n2, r2, r3]
  have n4 : ∀ fuel, Z.vm.isSubclassAux fuel d t = false := fun fuel => by
    cases fuel with
    | zero => rfl
    | succ f => simp [Vm.isSubclassAux, n1, s2, s4, n3]
  have n5 : ∀ fuel, Z.vm.isSubclassAux fuel cell.cls t = false := fun fuel => by
    cases fuel with
    | zero => rfl
    | succ f => simp [Vm.isSubclassAux, n0, u2, u4, n4]
  have ti : kt.isInterface = false := by cases q : kt.isInterface <;> simp [q] at t4 ⊢
  refine ⟨cell, t, e1, t1, ?_⟩
  have : Z.vm.assignable cell.cls t = false := by
    show Z.vm.assignableAux (255 + 1) cell.cls t = false
    simp [Vm.assignableAux, n0, u2, t2, u5, t3, ti, Vm.isSubclass, n5]
  rw [this]; simp
theorem and3 (x : Int32) : x &&& 3 = 0 ∨ x &&& 3 = 1 ∨ x &&& 3 = 2 ∨ x &&& 3 = 3 := by
  have q := c_mask x 3 2 (by decide) (by decide)
  have e : ∀ k : Int32, (x &&& 3).toInt = k.toInt → x &&& 3 = k := fun k h => Int32.toInt_inj.mp h
  have h0 := e 0; have h1 := e 1; have h2 := e 2; have h3 := e 3
  have e0 : (0 : Int32).toInt = 0 := rfl
  have e1 : (1 : Int32).toInt = 1 := rfl
  have e2 : (2 : Int32).toInt = 2 := rfl
  have e3 : (3 : Int32).toInt = 3 := rfl
  rw [e0] at h0; rw [e1] at h1; rw [e2] at h2; rw [e3] at h3
  have : x.toInt % ((2 ^ 2 : Nat) : Int) = 0 ∨ x.toInt % ((2 ^ 2 : Nat) : Int) = 1 ∨ x.toInt % ((2 ^ 2 : Nat) : Int) = 2 ∨ x.toInt % ((2 ^ 2 : Nat) : Int) = 3 := by omega
  rcases this with z | z | z | z
  · exact Or.inl (h0 (q.trans z))
  · exact Or.inr (Or.inl (h1 (q.trans z)))
  · exact Or.inr (Or.inr (Or.inl (h2 (q.trans z))))
  · exact Or.inr (Or.inr (Or.inr (h3 (q.trans z))))
end Facts
end Jvm.OwnK
namespace Jvm.OwnK
open Sem ClassFile Op Lib Jvm.RoadKit
theorem getD_mapI (cs : List Int32) (i : Nat) : (cs.map Value.int).getD i (.int 0) = .int (cs.getD i 0) := by
  simp only [List.getD_eq_getElem?_getD, List.getElem?_map]
  cases cs[i]? <;> rfl
theorem set_map (cs : List Int32) (i n : Nat) (c : Int32) (hn : n = cs.length) : setv (cs.map Value.int) n i (.int 0) (.int c) = (cs.set i c).map Value.int := by
  unfold setv; simp [hn, List.map_set]
theorem set_eq {cs : List Int32} {i : Nat} {c : Int32} (hi : i < cs.length) : cs.set i c = cs ↔ c = cs.getD i 0 := by
  constructor
  · intro h
    have q : (cs.set i c).getD i 0 = cs.getD i 0 := by rw [h]
    simpa [List.getD_eq_getElem?_getD, hi] using q
  · rintro rfl
    refine List.ext_getElem (by simp) fun j h1 h2 => ?_
    rw [List.getElem_set]
    split
    · rename_i e; subst e; simp [List.getD_eq_getElem?_getD, hi]
    · rfl
theorem ofN_nat {n : Nat} (h : n ≤ 4000) : (Int32.ofNat n).toNatClampNeg = n := by
  have := ofN h
  simp only [Int32.toNatClampNeg, this]; omega
theorem ofN_nn {n : Nat} (h : n ≤ 4000) : ¬ Int32.ofNat n < 0 := by rw [Int32.lt_iff_toInt_lt, ofN h, tI0]; omega
end Jvm.OwnK
namespace Jvm.OwnK
open Sem ClassFile Op Lib Bundle Jvm.Stand Jvm.Free Jvm.LawKit Jvm.RoadKit
/-! calls whose callee interns nothing: what they make may be written afterwards; super.m(); a class that is no interface -/
section Fresh
variable {Z : State} {EL : List (String × Nat)} {nI : Bool} {a0 : Array Value} {l : Launch} {own nm : String} {bytes : ByteArray} {ml : Nat} {ret : Option FieldType} {R rm : Room} {K : Kx} {Q Qy : Option Value → Heap → Prop} {W W' : List Addr} {h : Heap} {cl sl pc len Wt kc ks : Nat} {L : Array Slot} {S rest argsL : List Value} {y z : MethodName} {as' : Array Value} {index : Nat}
theorem Cal.wk (hC : Cal Z EL true a0 l R y len Wt as' h W kc ks Qy) : Cal Z EL nI a0 l R y len Wt as' h W kc ks Qy := fun p e bl s as vm0 hZ hEL H hS hO => by
  intro m meth c A g ig mk a X hg hsize hdg hW hn hp
  obtain ⟨v, B, X', q1, q2, ⟨Lo, r1, r2, r3, r4, r5, r6, r7, r8⟩, st⟩ := hC p e bl s as vm0 hZ hEL H hS hO m meth c A g ig mk a X hg hsize hdg hW hn hp
  exact ⟨v, B, X', q1, q2, ⟨Lo, r1, r2, r3, r4, r5, r6, fun _ => r7 rfl, r8⟩, st⟩
theorem fresh_safe {s : State} {vm0 vm1 : Vm} {h' : Heap} {ws : List Addr} (hW : (s.setVm vm0).WarmedH vm1) (hZ : Z.Warmed39 vm0) (w : EW Z a0 EL) (H : CHv Z EL vm0 h) (Kp : Keep h h' ws) (hs : ∀ x ∈ ws, Safe Z EL vm0 h x) {x : Addr} (hx : h.size ≤ x) : Safe Z EL vm1 h' x := by
  have q := CHv.later (h' := h) hZ (hW := (show (Wst Z vm0 h).Warmed39 vm1 from hW.wide)) w ⟨Nat.le_refl _, fun _ _ q => q⟩ (Or.inl hW.interned_eq) H
  have A : CHr Z EL vm0 h vm1 h := ⟨q.1, Nat.le_refl _, q.2⟩
  have hs' : ∀ y ∈ ws, Safe Z EL vm1 h y := fun y hy => by
    rcases Nat.lt_or_ge y h.size with r | r
    · exact A.safe r (hs y hy)
    · exact Safe.new r
  exact fun B => Safe.new (Z := Z) (EL := EL) (vm := vm1) (h := h) hx ((A.1.keepStep Kp hs').2 x B)
theorem St.backF (hK : Ok Z EL a0 l own nm bytes ml ret R K) {vm0 : Vm} {k0 : Nat} {locs : List Loc} {v : Option Value} {B : Pt} (X2 : K.s.Since vm0 k0) (X3 : k0 ≤ h.size) (X4 : Z.Warmed39 vm0) (X5 : CHr Z EL K.s.vm K.s.heap vm0 h) (X6 : ∀ x ∈ W, x < h.size ∧ Safe Z EL vm0 h x) (X8 : Fr Z.heap.size locs) (X9 : nI = true → K.s.WarmedH vm0)
    (Y : Stand K.p K.l K.e K.R ((K.s.setVm vm0).setVm B.U.vm) K.m K.as K.bl K.me K.c B.U B.locs B.cells B.slots) (hS : (K.s.setVm vm0).Since B.U.vm B.U.heap.size) (hg : h.size ≤ B.U.heap.size)
    (hp : ∃ Lo, Qy v B.U.heap ∧ Fr Z.heap.size Lo ∧ B.locs = locs ++ Lo ∧ B.cells = cl + kc ∧ B.slots = sl + ks ∧ CHr Z EL vm0 h B.U.vm B.U.heap ∧ (true = true → (K.s.setVm vm0).WarmedH B.U.vm) ∧ Ext Z.heap B.U.heap) (hKp : ∀ v h', Qy v h' → ∃ ws, Keep h h' ws ∧ ∀ x ∈ ws, Sf Z EL W h x) :
    Qy v B.U.heap ∧ ∀ N : List Addr, (∀ x ∈ N, h.size ≤ x ∧ x < B.U.heap.size) → St Z EL nI K (N ++ W) B.U.heap (cl + kc) (sl + ks) B.U := by
  obtain ⟨Lo, h1, h2, h3, h4, h5, h6, h7, h8⟩ := hp
  rw [h3, h4, h5] at Y
  obtain ⟨ws, q1, q2⟩ := hKp _ _ h1
  refine ⟨h1, fun N hN => ⟨B.U.vm, B.U.heap.size, _, Y, X2.trans hS (Nat.le_trans X3 hg), Nat.le_refl _, State.Warmed39.trans (t := K.s.setVm vm0) X4 hS.1, X5.trans h6, fun x hx => ?_, rfl, X8.app h2, fun q => State.WarmedH.trans (X9 q) (h7 rfl), h8⟩⟩
  rcases List.mem_append.mp hx with hx | hx
  · exact ⟨(hN x hx).2, fresh_safe (h7 rfl) X4 hK.2.2.2.2.2.2.2.2.2 X5.1 q1 (fun y hy => q2 y hy vm0 X4 X6) (hN x hx).1⟩
  · exact ⟨Nat.lt_of_lt_of_le (X6 x hx).1 hg, h6.safe (X6 x hx).1 (X6 x hx).2⟩
/-- invokespecial of a constructor that interns nothing: what it made may be written -/
theorem Run.specialF (hK : Ok Z EL a0 l own nm bytes ml ret R K) {by' : ByteArray} {ml' : Nat} (hy1 : y.name = "<init>") (w1 : (Jvm.Cond.methodLink own index y).before a0 Z = true) (w2 : (Jvm.Cond.instanceMethod y).before a0 Z = true) (w4 : (Jvm.Cond.code y by' ml' none).before a0 Z = true)
    (hy : y.cls ≠ "java/lang/invoke/MethodHandle" ∧ y.cls ≠ "java/lang/invoke/VarHandle") {a : Addr} (hsub : ∀ x ∈ W', x ∈ W) (hC : Cal Z EL true a0 l R y 3 Wt (.ref a :: argsL).toArray h W' kc ks Qy) (hsz : L.size = ml)
    (hlen : ∀ sig, parseMethodDescriptor y.desc = some sig → argsL.length = sig.parameters.length) (hst : S = argsL.reverse ++ .ref a :: rest) (hW : (rest.map fun v => v.category).sum ≤ Wt) (hd : decode bytes pc = .ok (.invokespecial index, 3)) (hc : cl + kc ≤ R.cells) (hs : sl + ks ≤ R.slots)
    (hKp : ∀ v h', Qy v h' → ∃ ws, Keep h h' ws ∧ ∀ x ∈ ws, Sf Z EL W h x)
    (k : ∀ v h', Qy v h' → h.size ≤ h'.size → ∃ N : List Addr, (∀ x ∈ N, h.size ≤ x ∧ x < h'.size) ∧ Run Z EL nI K Q (N ++ W) h' (cl + kc) (sl + ks) (pc + 3) L (v.toList ++ rest)) : Run Z EL nI K Q W h cl sl pc L S := fun T X => by
  obtain ⟨vm0, k0, locs, X1, X2, X3, X4, X5, X6, X7, X8, X9, X10⟩ := X
  have hown := hK.fc X2
  have hK0 := hK
  obtain ⟨hx, rfl, rfl, rfl, rfl, -, -, -, -, hEL⟩ := id hK
  have hZ : Z.Warmed39 (K.s.setVm vm0).vm := X4
  subst hst
  obtain ⟨v, vm1, B, -, Y, hS, hg, hp, st⟩ := X1.specialBackS hx (y := y) hy1 hown (mvT hZ w1) (mvT hZ w2) (mvT hZ w4) hy (hC K.p K.e K.bl K.s K.as vm0 X4 hEL X5.1 (fun x hx => X6 x (hsub x hx)) X10) (g := mkF K.m pc L (argsL.reverse ++ .ref a :: rest)) rfl hsz (Steps.refl _) (a := a) (argsL := argsL) (rest := rest) hlen rfl (by show 2 * 0 + _ ≤ _; omega) hd (fun _ _ => ⟨rfl, X7, hc, hs⟩)
  rw [X7] at hg
  obtain ⟨hq, Y'⟩ := St.backF hK0 X2 X3 X4 X5 X6 X8 X9 Y hS hg hp hKp
  obtain ⟨N, hN, kk⟩ := k v _ hq hg
  obtain ⟨s2, v', Lo, g, r⟩ := kk B.U (Y' _ hN)
  exact ⟨s2, v', Lo, st.trans g, r⟩
/-- invokevirtual likewise -/
theorem Run.virtualF (hK : Ok Z EL a0 l own nm bytes ml ret R K) {C : String} (w1 : (Jvm.Cond.methodLink own index y).before a0 Z = true) (w2 : (Jvm.Cond.declares y).before a0 Z = true) (hnf : ∀ s : State, Z.Warmed39 s.vm → NotFace s y) (w3 : (Jvm.Cond.selects C y z).before a0 Z = true) (w4 : (Jvm.Cond.instanceMethod z).before a0 Z = true)
    (hy : y.cls ≠ "java/lang/invoke/MethodHandle" ∧ y.cls ≠ "java/lang/invoke/VarHandle") {a : Addr} (E : Exa Z h a C) (hsub : ∀ x ∈ W', x ∈ W) (hC : Cal Z EL true a0 l R z 3 Wt (.ref a :: argsL).toArray h W' kc ks Qy) (hsz : L.size = ml)
    (hlen : ∀ sig, parseMethodDescriptor y.desc = some sig → argsL.length = sig.parameters.length) (hst : S = argsL.reverse ++ .ref a :: rest) (hW : (rest.map fun v => v.category).sum ≤ Wt) (hd : decode bytes pc = .ok (.invokevirtual index, 3)) (hc : cl + kc ≤ R.cells) (hs : sl + ks ≤ R.slots)
    (hKp : ∀ v h', Qy v h' → ∃ ws, Keep h h' ws ∧ ∀ x ∈ ws, Sf Z EL W h x)
    (k : ∀ v h', Qy v h' → h.size ≤ h'.size → ∃ N : List Addr, (∀ x ∈ N, h.size ≤ x ∧ x < h'.size) ∧ Run Z EL nI K Q (N ++ W) h' (cl + kc) (sl + ks) (pc + 3) L (v.toList ++ rest)) : Run Z EL nI K Q W h cl sl pc L S := fun T X => by
  obtain ⟨vm0, k0, locs, X1, X2, X3, X4, X5, X6, X7, X8, X9, X10⟩ := X
  have hown := hK.fc X2
  have hK0 := hK
  obtain ⟨hx, rfl, rfl, rfl, rfl, -, -, -, -, hEL⟩ := id hK
  have hZ : Z.Warmed39 (K.s.setVm vm0).vm := X4
  subst hst
  obtain ⟨cq, kq, qa, qb, qc⟩ := isOf hZ X7 E
  obtain ⟨v, vm1, B, -, Y, hS, hg, hp, st⟩ := X1.virtualBackS hx (y := y) (z := z) hown (mvT hZ w1) (mvT hZ w2) (hnf _ hZ) (mvT hZ w3) (mvT hZ w4) hy (hC K.p K.e K.bl K.s K.as vm0 X4 hEL X5.1 (fun x hx => X6 x (hsub x hx)) X10) qa qc (g := mkF K.m pc L (argsL.reverse ++ .ref a :: rest)) rfl hsz (Steps.refl _) (argsL := argsL) (rest := rest) hlen rfl (by show 2 * 0 + _ ≤ _; omega) hd (fun _ _ => ⟨rfl, X7, hc, hs⟩)
  rw [X7] at hg
  obtain ⟨hq, Y'⟩ := St.backF hK0 X2 X3 X4 X5 X6 X8 X9 Y hS hg hp hKp
  obtain ⟨N, hN, kk⟩ := k v _ hq hg
  obtain ⟨s2, v', Lo, g, r⟩ := kk B.U (Y' _ hN)
  exact ⟨s2, v', Lo, st.trans g, r⟩
/-- invokevirtual of a private method that an object of C selects -/
theorem Run.privatS (hK : Ok Z EL a0 l own nm bytes ml ret R K) {by' : ByteArray} {ml' : Nat} {ret' : Option FieldType} {C : String} (w1 : (Jvm.Cond.methodLink own index y).before a0 Z = true) (w2 : (Jvm.Cond.instanceMethod y).before a0 Z = true) (w3 : (Jvm.Cond.selects C y y).before a0 Z = true) (w5 : (Jvm.Cond.privateMethod y).before a0 Z = true) (w4 : (Jvm.Cond.code y by' ml' ret').before a0 Z = true)
    (hy : y.cls ≠ "java/lang/invoke/MethodHandle" ∧ y.cls ≠ "java/lang/invoke/VarHandle") {a : Addr} (E : Exa Z h a C) (hsub : ∀ x ∈ W', x ∈ W) (hC : Cal Z EL nI a0 l R y 3 Wt (.ref a :: argsL).toArray h W' kc ks Qy) (hsz : L.size = ml)
    (hlen : ∀ sig, parseMethodDescriptor y.desc = some sig → argsL.length = sig.parameters.length) (hst : S = argsL.reverse ++ .ref a :: rest) (hW : (rest.map fun v => v.category).sum ≤ Wt) (hd : decode bytes pc = .ok (.invokevirtual index, 3)) (hc : cl + kc ≤ R.cells) (hs : sl + ks ≤ R.slots)
    (k : ∀ v h', Qy v h' → h.size ≤ h'.size → Run Z EL nI K Q W h' (cl + kc) (sl + ks) (pc + 3) L (v.toList ++ rest)) : Run Z EL nI K Q W h cl sl pc L S := fun T X => by
  obtain ⟨vm0, k0, locs, X1, X2, X3, X4, X5, X6, X7, X8, X9, X10⟩ := X
  have hown := hK.fc X2
  obtain ⟨hx, rfl, rfl, rfl, rfl, -, -, -, -, hEL⟩ := id hK
  have hZ : Z.Warmed39 (K.s.setVm vm0).vm := X4
  subst hst
  obtain ⟨cq, q1, q2⟩ := E.cell
  obtain ⟨mk, me, hn, hm, hst', hab⟩ := Cond.instanceMethod_spec (mvT (args := K.as) hZ w2)
  obtain ⟨me', cM, hm', -, -, -, -, -, -, hsig⟩ := Cond.code_spec hn (mvT (args := K.as) hZ w4)
  cases hm.symm.trans hm'
  obtain ⟨ki, i2, i5⟩ := nfS w3 _ hZ mk hn
  have hsel : selectMethod K.e.platform (K.s.setVm vm0).vm cq.cls mk = .method mk := selectMethod_private hm (Cond.privateMethod_at (mvP hZ w5 (args := #[])) mk me hn hm)
  obtain ⟨vm1, Y1, st1⟩ := X1.invokevirtual hx hown (mvT hZ w1) hn hm hst' i2 i5 hy (a := a) (cell := cq) (by rw [X7]; exact q1) q2 hsel hm hab i2 i5 (g := mkF K.m pc L (argsL.reverse ++ .ref a :: rest)) rfl (argsL := argsL) (rest := rest) (hlen _ hsig) rfl hd
  obtain ⟨v, B, Y, hS, hg, hp, st2⟩ := hC K.p K.e K.bl K.s K.as vm0 X4 hEL X5.1 (fun x hx => X6 x (hsub x hx)) X10 K.m K.me K.c ⟨T.setVm vm1, locs, cl, sl⟩ (mkF K.m pc L rest) (.invokevirtual index) mk (.ref a :: argsL).toArray Y1 rfl hsz hd (by show 2 * 0 + (rest.map fun v => v.category).sum ≤ Wt; omega) (Y1.named hn) ⟨rfl, X7, hc, hs⟩
  replace hg : h.size ≤ B.U.heap.size := by rw [← X7]; exact hg
  obtain ⟨hq, Y'⟩ := St.back hK X2 X3 X4 X5 X6 X8 X9 Y hS hg hp
  obtain ⟨s2, v', Lo, g, r⟩ := k v _ hq hg B.U Y'
  exact ⟨s2, v', Lo, st1 _ fun acts => by rw [doInvoke_state]; exact st2.trans g, r⟩
/-- invokevirtual of a private method that an object of C selects, what it made may be written -/
theorem Run.privatSF (hK : Ok Z EL a0 l own nm bytes ml ret R K) {by' : ByteArray} {ml' : Nat} {ret' : Option FieldType} {C : String} (w1 : (Jvm.Cond.methodLink own index y).before a0 Z = true) (w2 : (Jvm.Cond.instanceMethod y).before a0 Z = true) (w3 : (Jvm.Cond.selects C y y).before a0 Z = true) (w5 : (Jvm.Cond.privateMethod y).before a0 Z = true) (w4 : (Jvm.Cond.code y by' ml' ret').before a0 Z = true)
    (hy : y.cls ≠ "java/lang/invoke/MethodHandle" ∧ y.cls ≠ "java/lang/invoke/VarHandle") {a : Addr} (E : Exa Z h a C) (hsub : ∀ x ∈ W', x ∈ W) (hC : Cal Z EL true a0 l R y 3 Wt (.ref a :: argsL).toArray h W' kc ks Qy) (hsz : L.size = ml)
    (hlen : ∀ sig, parseMethodDescriptor y.desc = some sig → argsL.length = sig.parameters.length) (hst : S = argsL.reverse ++ .ref a :: rest) (hW : (rest.map fun v => v.category).sum ≤ Wt) (hd : decode bytes pc = .ok (.invokevirtual index, 3)) (hc : cl + kc ≤ R.cells) (hs : sl + ks ≤ R.slots)
    (hKp : ∀ v h', Qy v h' → ∃ ws, Keep h h' ws ∧ ∀ x ∈ ws, Sf Z EL W h x)
    (k : ∀ v h', Qy v h' → h.size ≤ h'.size → ∃ N : List Addr, (∀ x ∈ N, h.size ≤ x ∧ x < h'.size) ∧ Run Z EL nI K Q (N ++ W) h' (cl + kc) (sl + ks) (pc + 3) L (v.toList ++ rest)) : Run Z EL nI K Q W h cl sl pc L S := fun T X => by
  obtain ⟨vm0, k0, locs, X1, X2, X3, X4, X5, X6, X7, X8, X9, X10⟩ := X
  have hown := hK.fc X2
  have hK0 := hK
  obtain ⟨hx, rfl, rfl, rfl, rfl, -, -, -, -, hEL⟩ := id hK
  have hZ : Z.Warmed39 (K.s.setVm vm0).vm := X4
  subst hst
  obtain ⟨cq, q1, q2⟩ := E.cell
  obtain ⟨mk, me, hn, hm, hst', hab⟩ := Cond.instanceMethod_spec (mvT (args := K.as) hZ w2)
  obtain ⟨me', cM, hm', -, -, -, -, -, -, hsig⟩ := Cond.code_spec hn (mvT (args := K.as) hZ w4)
  cases hm.symm.trans hm'
  obtain ⟨ki, i2, i5⟩ := nfS w3 _ hZ mk hn
  have hsel : selectMethod K.e.platform (K.s.setVm vm0).vm cq.cls mk = .method mk := selectMethod_private hm (Cond.privateMethod_at (mvP hZ w5 (args := #[])) mk me hn hm)
  obtain ⟨vm1, Y1, st1⟩ := X1.invokevirtual hx hown (mvT hZ w1) hn hm hst' i2 i5 hy (a := a) (cell := cq) (by rw [X7]; exact q1) q2 hsel hm hab i2 i5 (g := mkF K.m pc L (argsL.reverse ++ .ref a :: rest)) rfl (argsL := argsL) (rest := rest) (hlen _ hsig) rfl hd
  obtain ⟨v, B, Y, hS, hg, hp, st2⟩ := hC K.p K.e K.bl K.s K.as vm0 X4 hEL X5.1 (fun x hx => X6 x (hsub x hx)) X10 K.m K.me K.c ⟨T.setVm vm1, locs, cl, sl⟩ (mkF K.m pc L rest) (.invokevirtual index) mk (.ref a :: argsL).toArray Y1 rfl hsz hd (by show 2 * 0 + (rest.map fun v => v.category).sum ≤ Wt; omega) (Y1.named hn) ⟨rfl, X7, hc, hs⟩
  replace hg : h.size ≤ B.U.heap.size := by rw [← X7]; exact hg
  obtain ⟨hq, Y'⟩ := St.backF hK0 X2 X3 X4 X5 X6 X8 X9 Y hS hg hp hKp
  obtain ⟨N, hN, kk⟩ := k v _ hq hg
  obtain ⟨s2, v', Lo, g, r⟩ := kk B.U (Y' _ hN)
  exact ⟨s2, v', Lo, st1 _ fun acts => by rw [doInvoke_state]; exact st2.trans g, r⟩
/-- super.m(..) -/
theorem Run.up (hK : Ok Z EL a0 l own nm bytes ml ret R K) {by' : ByteArray} {ml' : Nat} {ret' : Option FieldType} {C : String} (hn1 : y.name ≠ "<init>") (w1 : (Jvm.Cond.methodLink own index y).before a0 Z = true) (w2 : (Jvm.Cond.sameMethod y.cls y.cls y.name y.desc).before a0 Z = true) (w3 : (Jvm.Cond.instanceMethod y).before a0 Z = true) (w4 : (Jvm.Cond.superclass own y.cls).before a0 Z = true) (w5 : (Jvm.Cond.code y by' ml' ret').before a0 Z = true)
    {a : Addr} (F : Ins Z h a C true) (hsub : ∀ x ∈ W', x ∈ W) (hC : Cal Z EL nI a0 l R y 3 Wt (.ref a :: argsL).toArray h W' kc ks Qy) (hsz : L.size = ml)
    (hlen : ∀ sig, parseMethodDescriptor y.desc = some sig → argsL.length = sig.parameters.length) (hst : S = argsL.reverse ++ .ref a :: rest) (hW : (rest.map fun v => v.category).sum ≤ Wt) (hd : decode bytes pc = .ok (.invokespecial index, 3)) (hc : cl + kc ≤ R.cells) (hs : sl + ks ≤ R.slots)
    (k : ∀ v h', Qy v h' → h.size ≤ h'.size → Run Z EL nI K Q W h' (cl + kc) (sl + ks) (pc + 3) L (v.toList ++ rest)) : Run Z EL nI K Q W h cl sl pc L S := fun T X => by
  obtain ⟨vm0, k0, locs, X1, X2, X3, X4, X5, X6, X7, X8, X9, X10⟩ := X
  have hown := hK.fc X2
  obtain ⟨hx, rfl, rfl, rfl, rfl, -, -, -, -, hEL⟩ := id hK
  have hZ : Z.Warmed39 (K.s.setVm vm0).vm := X4
  subst hst
  obtain ⟨v, vm1, B, -, Y, hS, hg, hp, st⟩ := superBackS X1 hx hZ (y := y) hown w1 w2 w3 w4 hn1 (hC K.p K.e K.bl K.s K.as vm0 X4 hEL X5.1 (fun x hx => X6 x (hsub x hx)) X10) X7 F (g := mkF K.m pc L (argsL.reverse ++ .ref a :: rest)) rfl hsz w5 (argsL := argsL) (rest := rest) hlen rfl (by show 2 * 0 + _ ≤ _; omega) hd (fun _ _ => ⟨rfl, X7, hc, hs⟩)
  rw [X7] at hg
  obtain ⟨hq, Y'⟩ := St.back hK X2 X3 X4 X5 X6 X8 X9 Y hS hg hp
  obtain ⟨s2, v', Lo, g, r⟩ := k v _ hq hg B.U Y'
  exact ⟨s2, v', Lo, st.trans g, r⟩
/-- a class that declares y' (which an object of C selects) is no interface -/
theorem nfO {y' : MethodName} {C : String} (w3 : (Jvm.Cond.selects C y' y').before a0 Z = true) (wi : (Jvm.Cond.instanceMethod y').before a0 Z = true) (hc : y'.cls = y.cls) : ∀ s : State, Z.Warmed39 s.vm → NotFace s y := fun s hZ r0 h0 => by
  obtain ⟨m', me', hn', -⟩ := Cond.instanceMethod_spec (mvT (args := #[]) hZ wi)
  obtain ⟨kr, h1, h2⟩ := nfS w3 s hZ m' hn'
  have e1 := findClass_of_methodNamed hn'
  have e2 := findClass_of_methodNamed h0
  rw [hc, e2] at e1
  have e3 : r0.cls = m'.cls := Option.some.inj e1
  exact ⟨kr, by rw [e3]; exact h1, h2⟩
theorem sm_of {y' : MethodName} {C : String} (w3 : (Jvm.Cond.selects C y' y').before a0 Z = true) (wi' : (Jvm.Cond.instanceMethod y').before a0 Z = true) (wi : (Jvm.Cond.instanceMethod y).before a0 Z = true) (hc : y'.cls = y.cls) (hy : y.cls ≠ "java/lang/invoke/MethodHandle" ∧ y.cls ≠ "java/lang/invoke/VarHandle") : (Jvm.Cond.sameMethod y.cls y.cls y.name y.desc).before a0 Z = true := by
  obtain ⟨m', me', hn', -⟩ := Cond.instanceMethod_spec wi'
  obtain ⟨m, me, hn, -⟩ := Cond.instanceMethod_spec wi
  obtain ⟨kr, h1, h2⟩ := notFace_of_selects w3 m' hn'
  have e1 := findClass_of_methodNamed hn'
  have e2 := findClass_of_methodNamed hn
  rw [hc, e2] at e1
  have e3 : m.cls = m'.cls := Option.some.inj e1
  have e4 := State.methodFound?_of_named hn hy
  rw [← e3] at h1
  have hn2 : Z.methodNamed? ⟨y.cls, y.name, y.desc⟩ = some m := hn
  simp [Cond.before, Cond.holds, Cond.value, e2, e4, hn2, h1, h2]
end Fresh
end Jvm.OwnK
namespace Jvm.OwnK
open Sem ClassFile Op Lib Jvm.RoadKit
theorem shl0 (x : Int32) : x <<< ((0 : Int32) &&& 31) = x := by
  rw [show ((0 : Int32) &&& 31) = 0 by decide]
  apply Int32.toBitVec_inj.mp; simp
theorem shr0 (x : Int32) : x >>> ((0 : Int32) &&& 31) = x := by
  rw [show ((0 : Int32) &&& 31) = 0 by decide]
  apply Int32.toBitVec_inj.mp; simp
theorem sub0 (x : Int32) : x - (0 : Int32) = x := by simp
theorem le_sub0 {m cap : Nat} (h : m ≤ cap) (hc : cap ≤ 4000) : ¬ (0 : Int32) < Int32.ofNat m - Int32.ofNat cap := by
  have q := c_isub (Int32.ofNat m) (Int32.ofNat cap); have r := rng32 (Int32.ofNat m - Int32.ofNat cap)
  rw [ofN (by omega), ofN hc] at q
  rw [Int32.lt_iff_toInt_lt, tI0]; omega
theorem ofN_lt2 {a b : Nat} (h : a ≤ 4000) (g : b ≤ 4000) : Int32.ofNat a < Int32.ofNat b ↔ a < b := by rw [Int32.lt_iff_toInt_lt, ofN h, ofN g]; omega
theorem app_pad {vs us : List Value} {n : Nat} (d : Value) (h : vs.length + us.length ≤ n) (i : Nat) :
    (vs ++ us).getD i d = ((vs ++ List.replicate (n - vs.length) d).take vs.length ++ (List.range us.length).map (fun i => us.getD (0 + i) d) ++ (vs ++ List.replicate (n - vs.length) d).drop (vs.length + us.length)).getD i d := by
  have e1 : (vs ++ List.replicate (n - vs.length) d).take vs.length = vs := by simp
  have e2 : (List.range us.length).map (fun i => us.getD (0 + i) d) = us := by
    refine List.ext_getElem (by simp) fun j h1 h2 => ?_
    simp [List.getD_eq_getElem?_getD, h2]
  rw [e1, e2]
  simp only [List.getD_eq_getElem?_getD]
  rcases Nat.lt_or_ge i (vs ++ us).length with q | q
  · rw [List.getElem?_append_left q]
  · rw [List.getElem?_append_right q, List.getElem?_eq_none q, List.getElem?_drop]
    rcases Nat.lt_or_ge (vs.length + us.length + (i - (vs ++ us).length)) (vs.length) with r | r
    · omega
    · rw [List.getElem?_append_right r, List.getElem?_replicate]
      split <;> rfl
theorem cp_all {vs : List Value} (d : Value) (i : Nat) : vs.getD i d = ((List.replicate vs.length d).take 0 ++ (List.range vs.length).map (fun i => vs.getD (0 + i) d) ++ (List.replicate vs.length d).drop (0 + vs.length)).getD i d := by
  have e2 : (List.range vs.length).map (fun i => vs.getD (0 + i) d) = vs := by
    refine List.ext_getElem (by simp) fun j h1 h2 => ?_
    simp [List.getD_eq_getElem?_getD, h2]
  rw [e2]; simp
theorem cp_pad' {vs : List Value} {n m : Nat} (d : Value) (h : vs.length ≤ n) (hm : n ≤ m) (i : Nat) : vs.getD i d = ((List.replicate m d).take 0 ++ (List.range n).map (fun i => vs.getD (0 + i) d) ++ (List.replicate m d).drop (0 + n)).getD i d := by
  simp only [List.getD_eq_getElem?_getD, List.take_zero, List.nil_append, Nat.zero_add]
  rcases Nat.lt_or_ge i n with q | q
  · rw [List.getElem?_append_left (by simp; exact q)]
    simp [List.getElem?_map, List.getElem?_range, q]
  · rw [List.getElem?_append_right (by simp; exact q), List.getElem?_eq_none (by omega : vs.length ≤ i)]
    simp only [List.getElem?_drop, List.getElem?_replicate]
    split <;> rfl
theorem gt_sub0 {m cap : Nat} (h : cap < m) (hc : m ≤ 4000) : (0 : Int32) < Int32.ofNat m - Int32.ofNat cap := by
  have q := c_isub (Int32.ofNat m) (Int32.ofNat cap); have r := rng32 (Int32.ofNat m - Int32.ofNat cap)
  rw [ofN (by omega), ofN (by omega)] at q
  rw [Int32.lt_iff_toInt_lt, tI0]; omega
theorem max_val {b d : Nat} (h : b ≤ d) (hd : d ≤ 4000) : (if Int32.ofNat b < Int32.ofNat d then Int32.ofNat d else Int32.ofNat b) = Int32.ofNat d := by
  by_cases q : b < d
  · rw [if_pos ((ofN_lt2 (by omega) hd).mpr q)]
  · rw [if_neg (fun z => q ((ofN_lt2 (by omega) hd).mp z)), show b = d by omega]
end Jvm.OwnK
namespace Jvm.OwnK
open Sem ClassFile Op Lib Bundle Jvm.Stand Jvm.Free Jvm.LawKit Jvm.RoadKit Jvm.Free.Exc
/-! exceptions that are made: what the walk must know of its invocation (Kn), contracts with that premise (CtrK, CalK) -/
def Kn (Z : State) (K : Kx) : Prop := K.s.vm.MethodsKnown ∧ K.s.vm.FramesKnown K.bl ∧ Ext Z.heap K.s.heap
def CtrK (Kc : Program → Env → List Frame → State → Array Value → Prop) (Z : State) (EL : List (String × Nat)) (nI : Bool) (l : Launch) (ws : List Jvm.Cond) (y : MethodName) (bytes : ByteArray) (ml : Nat) (ret : Option FieldType) (rm : Room) (as' : Array Value) (h : Heap) (W : List Addr) (Qy : Option Value → Heap → Prop) : Prop :=
  MetFree l y (head1 (Jvm.Cond.code y bytes ml ret :: ws) rm) (fun a U => a = as' ∧ Z.Warmed39 U.vm ∧ U.heap = h ∧ CHv Z EL U.vm h ∧ (∀ x ∈ W, x < h.size ∧ Safe Z EL U.vm h x) ∧ Ext Z.heap h) Kc
    (fun _ U o U' => ∃ v Lo, o = .returned v ∧ Qy v U'.heap ∧ Fr Z.heap.size Lo ∧ CHr Z EL U.vm U.heap U'.vm U'.heap ∧ ReturnedEndW U o U' Lo rm.cells rm.slots ∧ (nI = true → U.WarmedH U'.vm) ∧ Ext Z.heap U'.heap)
def KM : Program → Env → List Frame → State → Array Value → Prop := fun _ _ bl s _ => s.vm.MethodsKnown ∧ s.vm.FramesKnown bl
def CalK (Z : State) (EL : List (String × Nat)) (nI : Bool) (a0 : Array Value) (l : Launch) (R : Room) (y : MethodName) (len Wt : Nat) (as' : Array Value) (h : Heap) (W : List Addr) (kc ks : Nat) (Qy : Option Value → Heap → Prop) : Prop :=
  ∀ (p : Program) (e : Env) (bl : List Frame) (s : State) (as : Array Value) (vm0 : Vm), vm0.MethodsKnown → vm0.FramesKnown bl → Z.Warmed39 vm0 → EW Z a0 EL → CHv Z EL vm0 h → (∀ x ∈ W, x < h.size ∧ Safe Z EL vm0 h x) → Ext Z.heap h →
    BackS l R p e bl (s.setVm vm0) as y len Wt (fun A a => a = as' ∧ A.U.heap = h ∧ A.cells + kc ≤ R.cells ∧ A.slots + ks ≤ R.slots)
      (fun A _ v B => ∃ Lo, Qy v B.U.heap ∧ Fr Z.heap.size Lo ∧ B.locs = A.locs ++ Lo ∧ B.cells = A.cells + kc ∧ B.slots = A.slots + ks ∧ CHr Z EL vm0 h B.U.vm B.U.heap ∧ (nI = true → (s.setVm vm0).WarmedH B.U.vm) ∧ Ext Z.heap B.U.heap)
section Exc
variable {Z : State} {EL : List (String × Nat)} {nI : Bool} {a0 : Array Value} {l : Launch} {own nm : String} {bytes : ByteArray} {ml : Nat} {ret : Option FieldType} {R rm : Room} {K : Kx} {Q Qy : Option Value → Heap → Prop} {W W' : List Addr} {h : Heap} {cl sl pc len Wt kc ks : Nat} {L : Array Slot} {S rest argsL : List Value} {y z : MethodName} {as' : Array Value} {index : Nat} {C : String}
theorem CtrK.of_run {Kc : Program → Env → List Frame → State → Array Value → Prop} {L0 : Array Slot} {ws : List Jvm.Cond} (hpl : plainFor y = true) (hEL : EW Z a0 EL) (hent : argsToLocals as' ml = L0)
    (hkn : ∀ p e s m args below meth c s₁, Stand p l e rm s m args below meth c s₁ [] 0 0 → Kc p e below s args → s.vm.MethodsKnown ∧ s.vm.FramesKnown below)
    (body : ∀ K, Ok Z EL a0 l y.cls y.name bytes ml ret rm K → Kn Z K → Run Z EL nI K Qy W h 0 0 0 L0 []) : CtrK Kc Z EL nI l ws y bytes ml ret rm as' h W Qy := by
  refine MetFree.of_bodySF (code := bytes) (maxLocals := ml) (ret := ret) hpl hisR ?_
  intro p e s m args below meth c s₁ Bd hml hP hK
  obtain ⟨rfl, hZ, hh, hC, hS, hO⟩ := hP
  subst hent
  have e0 : s₁.heap = h := by rw [← hh, Bd.state]; rfl
  have kn := hkn _ _ _ _ _ _ _ _ _ (Stand.of_body Bd) hK
  obtain ⟨s2, v, Lo, g1, g2, g3, g4, g5, g6, g7, g8⟩ := body (p, l, e, rm, s, m, args, below, meth, c) ⟨Bd.exec, rfl, rfl, Bd.bytes, hml, Bd.returns, Bd.notSynchronized, (name_of_methodNamed Bd.named Bd.method).1, findClass_of_methodNamed Bd.named, hEL⟩ ⟨kn.1, kn.2, by show Ext Z.heap s.heap; rw [hh]; exact hO⟩ s₁
    ⟨s.vm, 0, [], Stand.of_body Bd, (State.WarmedH.refl s).since 0, Nat.zero_le _, hZ, by subst hh; exact CHr.refl hC, hS, e0, Fr.nil _, fun _ => State.WarmedH.refl s, hO⟩
  exact ⟨s2, _, g1, g2, g3, v, Lo, rfl, g4, g5, g6, g7, g8⟩
theorem CtrK.cal (hC : CtrK KM Z EL nI l [] y bytes ml ret rm as' h W Qy) (wc : (Jvm.Cond.code y bytes ml ret).before a0 Z = true) (wz : (Jvm.Cond.initialized y.cls).before a0 Z = true) (hf : rm.frames + 1 ≤ R.frames) (hl : Wt + (ml + 11) + rm.locals ≤ R.locals) :
    CalK Z EL nI a0 l R y len Wt as' h W rm.cells rm.slots Qy := fun p e bl s as vm0 hTK hBelow hZ hEL H hS hO =>
  BackS.of_freeWG (bytes := bytes) (maxL := ml) (ret := ret) (E := fun _ first o t Lo k n => k = rm.cells ∧ n = rm.slots ∧ (∃ v, o = .returned v ∧ Qy v t.heap) ∧ Fr Z.heap.size Lo ∧ CHr Z EL first.vm first.heap t.vm t.heap ∧ (nI = true → first.WarmedH t.vm) ∧ Ext Z.heap t.heap) hC hf hl
    (fun m meth c A a Y hp => have hU : Z.Warmed39 A.U.vm := wtrans (s := s.setVm vm0) hZ Y.warmed
      ⟨by show (Cond.and _ .tt).before a A.U = true; rw [Cond.before_and, mv hU wc]; rfl, mv hU wc, mv hU wz, hp.2.2.1, hp.2.2.2⟩)
    (fun m meth c A a g mk Y hp => have B := CHv.at Y hZ hEL H; ⟨hp.1, wtrans (s := s.setVm vm0) hZ Y.warmed, hp.2.1, B.1, fun x hx => ⟨(hS x hx).1, B.safe (hS x hx).1 (hS x hx).2⟩, hO⟩) (fun m meth c A a g mk Y _ hg => known_frames Y hg hTK hBelow)
    (fun _ _ _ _ ⟨v, Lo, h1, h2, h3, h4, h5, h6⟩ => ⟨Lo, _, _, h5, rfl, rfl, ⟨v, h1, h2⟩, h3, h4, h6⟩)
    (fun m meth c A a g mk v t Lo k n Y hp _ _ ⟨e1, e2, ⟨v', e3, e4⟩, e5, e6, e7, e8⟩ => by
      cases e3; subst e1 e2
      refine ⟨Lo, e4, e5, rfl, rfl, rfl, (CHv.at Y hZ hEL H).trans ?_, fun q => State.WarmedH.trans Y.warmed (e7 q), e8⟩
      rw [← hp.2.1]; exact e6)
theorem Run.staticK (hK : Ok Z EL a0 l own nm bytes ml ret R K) (hKn : Kn Z K) {by' : ByteArray} {ml' : Nat} {ret' : Option FieldType} (w1 : (Jvm.Cond.methodLink own index y).before a0 Z = true) (w2 : (Jvm.Cond.static y).before a0 Z = true) (w3 : (Jvm.Cond.initialized y.cls).before a0 Z = true) (w4 : (Jvm.Cond.code y by' ml' ret').before a0 Z = true)
    (hy : y.cls ≠ "java/lang/invoke/MethodHandle" ∧ y.cls ≠ "java/lang/invoke/VarHandle") (hsub : ∀ x ∈ W', x ∈ W) (hC : CalK Z EL nI a0 l R y 3 Wt argsL.toArray h W' kc ks Qy) (hsz : L.size = ml)
    (hlen : ∀ sig, parseMethodDescriptor y.desc = some sig → argsL.length = sig.parameters.length) (hst : S = argsL.reverse ++ rest) (hW : (rest.map fun v => v.category).sum ≤ Wt) (hd : decode bytes pc = .ok (.invokestatic index, 3)) (hc : cl + kc ≤ R.cells) (hs : sl + ks ≤ R.slots)
    (k : ∀ v h', Qy v h' → h.size ≤ h'.size → Run Z EL nI K Q W h' (cl + kc) (sl + ks) (pc + 3) L (v.toList ++ rest)) : Run Z EL nI K Q W h cl sl pc L S := fun T X => by
  obtain ⟨vm0, k0, locs, X1, X2, X3, X4, X5, X6, X7, X8, X9, X10⟩ := X
  have hown := hK.fc X2
  obtain ⟨hx, rfl, rfl, rfl, rfl, -, -, -, -, hEL⟩ := id hK
  have hZ : Z.Warmed39 (K.s.setVm vm0).vm := X4
  subst hst
  obtain ⟨v, vm1, B, -, Y, hS, hg, hp, st⟩ := callSS X1 hx (y := y) hown (mvT hZ w1) (mvT hZ w2) (mvT hZ w3) (mvT hZ w4) hy (hC K.p K.e K.bl K.s K.as vm0 (hKn.1.alikeC X2.1.alike) (hKn.2.1.alikeC X2.1.alike) X4 hEL X5.1 (fun x hx => X6 x (hsub x hx)) X10) (g := mkF K.m pc L (argsL.reverse ++ rest)) rfl hsz (argsL := argsL) (rest := rest) hlen rfl (by show 2 * 0 + _ ≤ _; omega) hd (fun _ _ => ⟨rfl, X7, hc, hs⟩)
  rw [X7] at hg
  obtain ⟨hq, Y'⟩ := St.back hK X2 X3 X4 X5 X6 X8 X9 Y hS hg hp
  obtain ⟨s2, v', Lo, g, r⟩ := k v _ hq hg B.U Y'
  exact ⟨s2, v', Lo, st.trans g, r⟩
/-- new, with the VM's marks -/
theorem Run.newU (hK : Ok Z EL a0 l own nm bytes ml ret R K) {n : Nat} (w : (Jvm.Cond.classLink own index C).before a0 Z = true) (wi : (Jvm.Cond.instantiable C n).before a0 Z = true) (wz : (Jvm.Cond.initialized C).before a0 Z = true) (hd : decode bytes pc = .ok (.new index, 3)) (hc : cl + 1 ≤ R.cells) (hl : sl + n ≤ R.slots)
    (k : ∀ h', Ext h h' → Exa Z h' h.size C → Unt h' h.size → (∀ {O f d : String} {ty : FieldType}, Laid Z a0 C O f d → parseFieldDescriptor d = some ty → Fld Z h' h.size O f d (defaultValue ty)) → Run Z EL nI K Q (h.size :: W) h' (cl + 1) (sl + n) (pc + 3) L (.ref h.size :: S)) : Run Z EL nI K Q W h cl sl pc L S := by
  obtain ⟨hx, rfl, rfl, rfl, rfl, -⟩ := id hK
  refine Run.grow hK (P := fun h' => Exa Z h' h.size C ∧ Unt h' h.size ∧ (∀ {O f d : String} {ty : FieldType}, Laid Z a0 C O f d → parseFieldDescriptor d = some ty → Fld Z h' h.size O f d (defaultValue ty))) (fun T vm0 locs X hZ hown e => ?_) (fun h' E P => k h' E P.1 P.2.1 P.2.2)
  obtain ⟨T', h', X', e', E', A', D', U', st⟩ := newO X hx hZ hown w wi wz e (g := mkF K.m pc L S) rfl hd hc hl
  exact ⟨T', h', X', e', E', A'.lt, ⟨A', U', D'⟩, st⟩
/-- the chain of an exception's constructors, (String) -/
theorem Run.exc1 (hK : Ok Z EL a0 l own nm bytes ml ret R K) (hKn : Kn Z K) (hl : l.stackTraces = true) {links : List Link} {ic n : Nat} {rc : String} (hok : linksOk 1 links = true)
    (w1 : (Jvm.Cond.methodLink own ic (ctor 1 (headName links))).before a0 Z = true) (w2 : (Jvm.Cond.instanceMethod (ctor 1 (headName links))).before a0 Z = true) (wT : (chainTab 1 rc links).before a0 Z = true) (wi : (Jvm.Cond.instantiable rc n).before a0 Z = true) (r : ∀ d ∈ twoRefs, d.before a0 Z = true)
    {a : Addr} (E : Exa Z h a rc) (N : Unt h a) (B : Fld Z h a tN "backtrace" obD .null) (B2 : Fld Z h a tN "detailMessage" msgD .null) {msg : Value} (hmsg : msg.isRef = true) (ge : Z.heap.size ≤ a) (h1 : rc ≠ "java/lang/String") (h2 : rc ≠ "[B") (hsz : L.size = ml) (hd : decode bytes pc = .ok (.invokespecial ic, 3))
    (hf : 4 + links.length ≤ R.frames) (hlo : (rest.map fun v => v.category).sum + (56 + 14 * links.length) ≤ R.locals) (hc : cl + 1 ≤ R.cells) (hs : sl + 2752 ≤ R.slots)
    (k : ∀ h', Keep h h' [a] → Exa Z h' a rc → Fld Z h' a tN "detailMessage" msgD msg → Run Z EL nI K Q W h' (cl + 1) (sl + 2752) (pc + 3) L rest) : Run Z EL nI K Q W h cl sl pc L (msg :: .ref a :: rest) := fun T X => by
  obtain ⟨vm0, k0, locs, X1, X2, X3, X4, X5, X6, X7, X8, X9, X10⟩ := X
  have hown := hK.fc X2
  obtain ⟨hx, rfl, rfl, rfl, rfl, -, -, -, -, hEL⟩ := id hK
  have hZ : Z.Warmed39 (K.s.setVm vm0).vm := X4
  obtain ⟨T', h', Y, eY, Kp', E', N', F1, F2, hT', st⟩ := excL1 X1 hx hl hZ hown hok w1 w2 wT wi r (show ThS Z K.s.heap from ThS.start.ext hKn.2.2) (ThS.start.ext X10) (hKn.1.alikeC X2.1.alike) (hKn.2.1.alikeC X2.1.alike) X7 E N B B2 hmsg (g := mkF K.m pc L (msg :: .ref a :: rest)) rfl hsz (rest := rest) rfl hd hf (by show 2 * 0 + _ + _ ≤ _; omega) hc hs
  have Kp := keep_of_kp Kp'
  have hws : ∀ x ∈ [a], Safe Z EL vm0 h x := fun x hx => by cases List.mem_singleton.mp hx; exact sfE E h1 h2 vm0 X4 X6
  have Cr := CHr.keep Kp hws X5.1
  obtain ⟨s2, v, Lo, g, r⟩ := k h' Kp E' F1 T' ⟨vm0, k0, _, Y, X2, Nat.le_trans X3 Kp.1, X4, X5.trans Cr, fun x hx => ⟨Nat.lt_of_lt_of_le (X6 x hx).1 Kp.1, Cr.safe (X6 x hx).1 (X6 x hx).2⟩, eY, X8.six ge, X9, (Old.keep (Z := Z) (n0 := Z.heap.size) ⟨rfl, X10⟩ Kp (fun x hx => by cases List.mem_singleton.mp hx; exact ge)).2⟩
  exact ⟨s2, v, Lo, st _ g, r⟩
/-- invokevirtual of a method that the named class inherits -/
theorem Run.virtualUp (hK : Ok Z EL a0 l own nm bytes ml ret R K) {owner : String} (w1 : (Jvm.Cond.methodLink own index y).before a0 Z = true) (wsm : (Jvm.Cond.sameMethod y.cls owner y.name y.desc).before a0 Z = true) (w2 : (Jvm.Cond.declares ⟨owner, y.name, y.desc⟩).before a0 Z = true) (ho : owner ≠ "java/lang/invoke/MethodHandle" ∧ owner ≠ "java/lang/invoke/VarHandle") (w3 : (Jvm.Cond.selects C y z).before a0 Z = true) (w4 : (Jvm.Cond.instanceMethod z).before a0 Z = true)
    {a : Addr} (E : Exa Z h a C) (hsub : ∀ x ∈ W', x ∈ W) (hC : Cal Z EL nI a0 l R z 3 Wt (.ref a :: argsL).toArray h W' kc ks Qy) (hsz : L.size = ml)
    (hlen : ∀ sig, parseMethodDescriptor y.desc = some sig → argsL.length = sig.parameters.length) (hst : S = argsL.reverse ++ .ref a :: rest) (hW : (rest.map fun v => v.category).sum ≤ Wt) (hd : decode bytes pc = .ok (.invokevirtual index, 3)) (hc : cl + kc ≤ R.cells) (hs : sl + ks ≤ R.slots)
    (k : ∀ v h', Qy v h' → h.size ≤ h'.size → Run Z EL nI K Q W h' (cl + kc) (sl + ks) (pc + 3) L (v.toList ++ rest)) : Run Z EL nI K Q W h cl sl pc L S := fun T X => by
  obtain ⟨vm0, k0, locs, X1, X2, X3, X4, X5, X6, X7, X8, X9, X10⟩ := X
  have hown := hK.fc X2
  obtain ⟨hx, rfl, rfl, rfl, rfl, -, -, -, -, hEL⟩ := id hK
  have hZ : Z.Warmed39 (K.s.setVm vm0).vm := X4
  subst hst
  obtain ⟨cq, kq, qa, qb, qc⟩ := isOf hZ X7 E
  obtain ⟨v, vm1, B, -, Y, hS, hg, hp, st⟩ := X1.virtualBackUpS hx (x := y) (y := z) hown (mv hZ w1) (mv hZ wsm) (mv hZ w2) ho (mv hZ w3) (mv hZ w4) (hC K.p K.e K.bl K.s K.as vm0 X4 hEL X5.1 (fun x hx => X6 x (hsub x hx)) X10) qa qc (g := mkF K.m pc L (argsL.reverse ++ .ref a :: rest)) rfl hsz (Steps.refl _) (argsL := argsL) (rest := rest) hlen rfl (by show 2 * 0 + _ ≤ _; omega) hd (fun _ _ => ⟨rfl, X7, hc, hs⟩)
  rw [X7] at hg
  obtain ⟨hq, Y'⟩ := St.back hK X2 X3 X4 X5 X6 X8 X9 Y hS hg hp
  obtain ⟨s2, v', Lo, g, r⟩ := k v _ hq hg B.U Y'
  exact ⟨s2, v', Lo, st.trans g, r⟩
end Exc
end Jvm.OwnK
namespace Jvm.OwnK
open Sem ClassFile Op Lib Bundle Jvm.Stand Jvm.Free Jvm.LawKit Jvm.RoadKit Jvm.Free.Exc
/-! Throwable's constructor where the tables lay its fields in the receiver's class alone (rc) -/
def thrW (rc : String) : List Jvm.Cond := [.native tFill0, .initialized tN, .superclass tN "java/lang/Object", .instanceMethod tFill, .codeSync tFill LibCode.Throwable.Fill.code 1 (some (.object tN)), .instanceMethod tFill0, .instanceMethod oInit, .code oInit ⟨#[0xb1]⟩ 1 none,
  .methodLink tN 1 oInit, .methodLink tN 27 tFill, .methodLink tN 202 tFill0, .fieldLink tN 7 tN "cause" thD, .lays rc tN "cause" thD, .fieldLink tN 17 tN "stackTrace" steD, .lays rc tN "stackTrace" steD, .fieldLink tN 24 tN "suppressedExceptions" listD, .lays rc tN "suppressedExceptions" listD,
  .fieldLink tN 13 tN "UNASSIGNED_STACK" steD, .laysStatic tN "UNASSIGNED_STACK" steD, .fieldLink tN 20 tN "SUPPRESSED_SENTINEL" listD, .laysStatic tN "SUPPRESSED_SENTINEL" listD, .fieldLink tN 198 tN "backtrace" obD, .lays rc tN "backtrace" obD, .lays rc tN "depth" "I", .lays rc tN "detailMessage" msgD,
  .soleField tN "backtrace", .soleField tN "depth", .arrayOver (.object "java/lang/Object"), .selects rc tFill0 tFill0, .selects rc tFill tFill, .declares tFill]
theorem thrW_ok {rc : String} : (thrW rc).all xOk = true := rfl
def Tie (s : State) (T : ThrowableC) : Prop := (s.vm.findClass tN = some T.cT) ∧ (s.methodNamed? tFill = some T.fill) ∧ (s.methodNamed? tFill0 = some T.fill0) ∧ (s.fieldFound? tN "stackTrace" steD = some (T.cT, T.kT, T.i17, T.fStack)) ∧ (s.fieldFound? tN "UNASSIGNED_STACK" steD = some (T.cT, T.kT, T.i13, T.fUnassigned)) ∧ (T.fStack.name = "stackTrace") ∧ (T.fStack.type = .array (.object "java/lang/StackTraceElement"))
theorem Tie.found {s : State} {T : ThrowableC} (h : Tie s T) : s.vm.findClass tN = some T.cT := h.1
theorem Tie.fill {s : State} {T : ThrowableC} (h : Tie s T) : s.methodNamed? tFill = some T.fill := h.2.1
theorem Tie.fill0 {s : State} {T : ThrowableC} (h : Tie s T) : s.methodNamed? tFill0 = some T.fill0 := h.2.2.1
theorem Tie.stack {s : State} {T : ThrowableC} (h : Tie s T) : s.fieldFound? tN "stackTrace" steD = some (T.cT, T.kT, T.i17, T.fStack) := h.2.2.2.1
theorem Tie.un {s : State} {T : ThrowableC} (h : Tie s T) : s.fieldFound? tN "UNASSIGNED_STACK" steD = some (T.cT, T.kT, T.i13, T.fUnassigned) := h.2.2.2.2.1
theorem Tie.sname {s : State} {T : ThrowableC} (h : Tie s T) : T.fStack.name = "stackTrace" := h.2.2.2.2.2.1
theorem Tie.stype {s : State} {T : ThrowableC} (h : Tie s T) : T.fStack.type = .array (.object "java/lang/StackTraceElement") := h.2.2.2.2.2.2
theorem thr {args : Array Value} {s : State} {pl : Platform} {rc : String} (howns : pl.frameOwnsMonitors = true) (hfin : pl.finalization = false) (hpl : pl.magicAccessors = ({} : Platform).magicAccessors) (w : ∀ x ∈ thrW rc, x.before args s = true) :
    ∃ T : ThrowableC, T.Links pl s ∧ Tie s T := by
  have g : ∀ (i : Nat) {x : Jvm.Cond}, (thrW rc)[i]? = some x → x.holds args s none s [] = true := fun i x q => w x (List.mem_of_getElem? q)
  obtain ⟨⟨c, jN⟩, mN, nN, qN, nat, noc, nol, sgN⟩ := Cond.native_spec (x := tFill0) (g 0 rfl)
  have fc : s.vm.findClass tN = some c := findClass_of_methodNamed nN
  obtain ⟨k, ck, cn⟩ := Vm.findClass_spec fc
  obtain ⟨-, k', -, -, ck', -, -, -, -, nif⟩ := Cond.superclass_spec fc (g 2 rfl)
  cases ck.symm.trans ck'
  obtain ⟨jF, mF, nF, qF, aF, sF, bF, -, -⟩ := Cond.ownMethod (x := tFill) fc ck (g 3 rfl)
  obtain ⟨mF', cF, qF', kF, byF, lF, rF, loF, -, sgF⟩ := Cond.codeSync_spec nF (g 4 rfl)
  cases qF.symm.trans qF'
  obtain ⟨jN', mN', nN', qN', aN, sN, bN, nmN, dsN⟩ := Cond.ownMethod (x := tFill0) fc ck (g 5 rfl)
  cases nN.symm.trans nN'
  cases qN.symm.trans qN'
  obtain ⟨mo, mO, nO, qO, sO, bO⟩ := Cond.instanceMethod_spec (x := oInit) (g 6 rfl)
  obtain ⟨mO', cO, qO', kO, byO, -, -, loO, -, sgO⟩ := Cond.code_spec nO (g 7 rfl)
  cases qO.symm.trans qO'
  obtain ⟨kQ, ckQ, cnQ⟩ := Vm.findClass_spec (findClass_of_methodNamed nO)
  obtain ⟨nmO, dsO⟩ := name_of_methodNamed nO qO
  obtain ⟨x1, y1, cf, l1, r1, hcf, p1⟩ := Cond.linkedMethod fc ck nO (g 8 rfl) pl hpl
  obtain ⟨x2, y2, cf2, l2, r2, hcf2, p2⟩ := Cond.linkedMethod fc ck nF (g 9 rfl) pl hpl
  obtain ⟨x3, y3, cf3, l3, r3, hcf3, p3⟩ := Cond.linkedMethod fc ck nN (g 10 rfl) pl hpl
  cases hcf.symm.trans hcf2
  cases hcf.symm.trans hcf3
  obtain ⟨u7, i7, f7, L7, R7, A7, S7, F7, -, -, -⟩ := Cond.ownField (t := .object tN) fc ck (by decide +kernel) (g 11 rfl) (g 12 rfl) pl hpl
  obtain ⟨u17, i17, f17, L17, R17, A17, S17, F17, N17, T17, G17⟩ := Cond.ownField (t := .array (.object "java/lang/StackTraceElement")) fc ck (by decide +kernel) (g 13 rfl) (g 14 rfl) pl hpl
  obtain ⟨u24, i24, f24, L24, R24, A24, S24, F24, N24, -, G24⟩ := Cond.ownField (t := .object "java/util/List") fc ck (by decide +kernel) (g 15 rfl) (g 16 rfl) pl hpl
  obtain ⟨u13, i13, f13, aS, -, L13, R13, A13, S13, -, -, sta, -, -, -, -, G13⟩ := Cond.ownStatic (t := .array (.object "java/lang/StackTraceElement")) fc ck (by decide +kernel) (g 17 rfl) (g 18 rfl) pl hpl
  obtain ⟨u20, i20, f20, -, -, L20, R20, A20, S20, -, -, -, -, -, -, -, -⟩ := Cond.ownStatic (t := .object "java/util/List") fc ck (by decide +kernel) (g 19 rfl) (g 20 rfl) pl hpl
  have far : f17.slot ≠ f24.slot := by
    obtain ⟨cr, kr, -, -, -, -, fr, kr', -⟩ := Cond.lays_spec (g 14 rfl)
    obtain ⟨-, d1, e1, o1⟩ := Cond.laysAt fr kr' G17 (g 14 rfl)
    obtain ⟨-, d2, e2, o2⟩ := Cond.laysAt fr kr' G24 (g 16 rfl)
    exact Cond.laysApart e1 e2 o1 o2 (by rw [N17, N24]; decide)
  have pF : mF.sig.parameters = [] := by
    have q : (parseMethodDescriptor tFill.desc).map (·.parameters) = some [] := by decide +kernel
    rw [sgF] at q; exact Option.some.inj q
  have pN : mN.sig.parameters = [.int] := by
    have q : (parseMethodDescriptor tFill0.desc).map (·.parameters) = some [.int] := by decide +kernel
    rw [sgN] at q; exact Option.some.inj q
  have pO : mO.sig.parameters = [] := by
    have q : (parseMethodDescriptor oInit.desc).map (·.parameters) = some [] := by decide +kernel
    rw [sgO] at q; exact Option.some.inj q
  refine ⟨{ cT := c, kT := k, cO := c, aS := aS, fillIdx := jF, fill0Idx := jN, initSIdx := jF, obj := mo, kObj := kQ, methFill := mF, methFill0 := mN, methInitS := mF, methObj := mO, codeFill := cF, codeInitS := cF, codeObj := cO, fBack := f7, fDepth := f7, fStack := f17, fCause := f7, fSupp := f24, fMsg := f7, fUnassigned := f13, fSentinel := f20, cfT := cf, ci1 := x1, n1 := y1, ci27 := x2, n27 := y2, ci202 := x3, n202 := y3, ci7 := u7, i7 := i7, ci13 := u13, i13 := i13, ci17 := u17, i17 := i17, ci20 := u20, i20 := i20, ci24 := u24, i24 := i24 }, ?_, ⟨fc, nF, nN, G17, G13, N17, T17⟩⟩
  constructor
  case owns => exact howns
  case noFinalization => exact hfin
  case cls => exact ck
  case name => exact cn
  case boot => exact Vm.findClass_boot fc ck
  case initialized => exact Cond.initialized_spec fc ck (g 1 rfl)
  case objFound => rw [dsO]; exact lookupSpecial_of_named nO qO sO
  case objParams => show mO.sig.parameters.length = 0; rw [pO]; rfl
  all_goals assumption
variable {p : Program} {l : Launch} {e : Env} {R : Room} {s T : State} {m : MethodId} {args : Array Value} {below : List Frame} {meth : Method} {c : Code} {locs : List Loc} {cl sl : Nat}
/-- the walk's place, taken as a new start -/
theorem again (X : Stand p l e R s m args below meth c T locs cl sl) (hv : s.vm = T.vm) (hc : cl ≤ R.cells) (hs : sl ≤ R.slots) :
    Stand p l e { frames := R.frames, cells := R.cells - cl, slots := R.slots - sl, locals := R.locals } (T.setFrames (.invoking m args :: below)) m args below meth c T [] 0 0 := by
  obtain ⟨f0, hf0⟩ := Option.isSome_iff_exists.mp X.here.top
  obtain ⟨tl, htl⟩ := State.topJava?_eq_some.mp hf0
  have hcur : T.cur < T.threads.size := State.cur_lt_of_frames htl
  have ef : (T.setFrames (.invoking m args :: below)).frames = .invoking m args :: below := State.frames_setFrames _ hcur
  have hm : (T.setFrames (.invoking m args :: below)).vm.method? m = some meth := by show T.vm.method? m = some meth; rw [← hv]; exact X.method
  have hh := X.heapSize
  have hu := X.used
  refine ⟨X.admits, X.cas, X.clock, ef, ?_, ?_, hm, X.code, X.here, X.tail, State.WarmedH.refl _, (State.stackLimits_setFrames _ _ _).symm, (State.stackBytes_setFrames _ _).symm, ?_⟩
  · refine State.hasRoom_ride (s := s) (r := R) ?_ ?_ ((State.stackLimits_setFrames _ _ _).trans X.limits) ((State.stackBytes_setFrames _ _).trans X.bytes) ?_ ?_ X.book X.room
    · rw [ef, X.frames]; exact Nat.le_refl _
    · rw [State.localsInUse_invoking ef hm X.code, State.localsInUse_invoking X.frames X.method X.code]; exact Nat.le_refl _
    · show T.heap.size + (R.cells - cl) ≤ s.heap.size + R.cells; omega
    · show T.slotsUsed + (R.slots - sl) ≤ s.slotsUsed + R.slots; omega
  · have q := X.hears
    have e1 : ∀ mm, (T.setFrames (.invoking m args :: below)).code? mm = s.code? mm := fun mm => by unfold State.code?; rw [hv]; rfl
    have e2 : (T.setFrames (.invoking m args :: below)).vm.method? m = s.vm.method? m := by rw [hv]; rfl
    unfold State.hears at q ⊢
    simp only [e1, e2]
    exact q
  · obtain ⟨t1, ht1, -⟩ := State.frames_cons ef
    obtain ⟨t2, ht2, -⟩ := State.frames_cons htl
    have q := (State.sameButNew.refl (T.setFrames (.invoking m args :: below)) ht1).setFrames T.frames (Array.getElem?_eq_some_iff.mp ht1).1
    rw [State.setFrames_setFrames, State.setFrames_self ht2] at q
    exact q
section Fill
variable {Z : State} {EL : List (String × Nat)} {nI : Bool} {a0 : Array Value} {l : Launch} {nm : String} {bytes : ByteArray} {ml : Nat} {ret : Option FieldType} {R rm : Room} {K : Kx} {Q Qy : Option Value → Heap → Prop} {W W' : List Addr} {h : Heap} {cl sl pc len Wt kc ks : Nat} {L : Array Slot} {S rest argsL : List Value} {y : MethodName} {index : Nat}
/-- fillInStackTrace, called in Throwable's own constructor -/
theorem Run.fill (hK : Ok Z EL a0 l tN nm bytes ml ret R K) (hKn : Kn Z K) (hl : l.stackTraces = true) {rc : String} {n : Nat} (w : ∀ x ∈ thrW rc, x.before a0 Z = true) (wi : (Jvm.Cond.instantiable rc n).before a0 Z = true) {a : Addr} {u0 d0 : Value} (hu : u0.isRef = true)
    (E : Exa Z h a rc) (N : Unt h a) (B : Fld Z h a tN "backtrace" obD .null) (F : Fld Z h a tN "stackTrace" steD u0) (G : Sta Z h tN "UNASSIGNED_STACK" steD u0) (D : Fld Z h a tN "detailMessage" msgD d0) (ge : Z.heap.size ≤ a) (h1 : rc ≠ "java/lang/String") (h2 : rc ≠ "[B")
    (hsz : L.size = ml) (hd : decode bytes pc = .ok (.invokevirtual 27, 3)) (hf : 3 ≤ R.frames) (hlo : (rest.map fun v => v.category).sum + 42 ≤ R.locals) (hc : cl + 1 ≤ R.cells) (hs : sl + 2752 ≤ R.slots)
    (k : ∀ h', Keep h h' [a] → Exa Z h' a rc → Fld Z h' a tN "detailMessage" msgD d0 → Run Z EL nI K Q W h' (cl + 1) (sl + 2752) (pc + 3) L (.ref a :: rest)) : Run Z EL nI K Q W h cl sl pc L (.ref a :: rest) := fun T X => by
  obtain ⟨vm0, k0, locs, X1, X2, X3, X4, X5, X6, X7, X8, X9, X10⟩ := X
  obtain ⟨hx, rfl, rfl, rfl, rfl, -, -, -, hfc, hEL⟩ := id hK
  have al1 : K.s.vm.Alike T.vm := X2.1.alike.trans X1.warmed.alike
  have Ag := again (X1.retabled X1.warmed.wide) rfl (Nat.le_trans (Nat.le_add_right _ _) hc) (Nat.le_trans (Nat.le_add_right _ _) hs)
  obtain ⟨u, hU⟩ : ∃ u, u = T.setFrames (.invoking K.m K.as :: K.bl) := ⟨_, rfl⟩
  have Au : Stand K.p K.l K.e { frames := K.R.frames, cells := K.R.cells - cl, slots := K.R.slots - sl, locals := K.R.locals } u K.m K.as K.bl K.me K.c T [] 0 0 := by rw [hU]; exact Ag
  have uv : u.vm = T.vm := by rw [hU]; rfl
  have uh : u.heap = h := by rw [hU]; exact X7
  clear Ag
  have hZ : Z.Warmed39 u.vm := by rw [uv]; exact wtrans (s := K.s.setVm vm0) X4 X1.warmed
  have hal : Z.vm.Alike u.vm := hZ.alike
  have hT : ThS Z u.heap := by rw [uh]; exact ThS.start.ext X10
  have wU : ∀ x ∈ thrW rc, x.before K.as u = true := fun x hx => mvX hT hZ (List.all_eq_true.mp thrW_ok x hx) (w x hx)
  have g : ∀ (i : Nat) {x : Jvm.Cond}, (thrW rc)[i]? = some x → x.before K.as u = true := fun i x q => wU x (List.mem_of_getElem? q)
  have ep := Au.admits.platform
  have hpl : K.e.platform.magicAccessors = ({} : Platform).magicAccessors := by rw [ep]
  obtain ⟨Th, Lk, Ti⟩ := thr (pl := K.e.platform) (by rw [ep]) (by rw [ep]) hpl wU
  have hown : u.vm.findClass tN = some K.m.cls := by rw [uv, al1.findClass]; exact hfc
  -- the receiver
  obtain ⟨cell, kX, c1, c2, c3, c4, c5⟩ := id E
  obtain ⟨cell', n1, n2, n3⟩ := id N
  cases c1.symm.trans n1
  have frc : u.vm.findClass rc = some cell.cls := by rw [hal.findClass]; exact c2
  obtain ⟨kX', ck', ek⟩ := hal.2.2 _ _ c3
  obtain ⟨ci, ki, i1, i2, i3, i4, -⟩ := Cond.instantiable_spec wi
  cases i1.symm.trans c2
  cases i2.symm.trans c3
  have hord : kX'.kind = .ordinary := by rw [ek]; exact i3
  have hsz' : cell.slots.size = kX'.instanceTypes.size := by rw [ek]; exact c5 i3
  have cu : u.heap[a]? = some cell := by rw [uh]; exact c1
  have tk : ∀ {f : Field} {v : Value}, kX'.instanceTypes[f.slot]? = some f.type → fits f.type v = true → Jvm.Takes u cell f v := fun {f v} q1 q2 => by
    obtain ⟨z1, z2⟩ := Takes.of_laid (v := v) ck' hord q1 q2
    exact ⟨by rw [hsz']; simpa using z1, by simpa [State.fitsSlot, State.slotType?, n2] using z2⟩
  -- the fields
  have ride : ∀ {C q d : String} {x : ClassId} {kk : Class} {i : Nat} {f : Field}, Z.fieldFound? C q d = some (x, kk, i, f) → ∃ c' k' i', u.fieldFound? C q d = some (c', k', i', f) := fun q => Jvm.Free.BdW.found_ride (U := Z) (U' := u) hal ⟨_, _, _, q⟩
  obtain ⟨_, xB, kB, iB, fB', b1, b2, -, -, -, -, b7⟩ := B
  cases c1.symm.trans b1
  obtain ⟨_, xF, kF, iF, fS', s1, s2, -, -, -, -, s7⟩ := F
  cases c1.symm.trans s1
  obtain ⟨_, xD, kD, iD, fM', m1, m2, m3, m4, m5, m6, m7⟩ := id D
  cases c1.symm.trans m1
  obtain ⟨ciB, jB, fB, lB, rB, aB, sB, -, nB, tB, gB⟩ := Cond.ownField (t := .object "java/lang/Object") Ti.found Lk.cls (by decide +kernel) (g 21 rfl) (g 22 rfl) K.e.platform hpl
  obtain ⟨_, _, _, rB'⟩ := ride b2
  cases gB.symm.trans rB'
  obtain ⟨_, _, _, rS'⟩ := ride s2
  cases Ti.stack.symm.trans rS'
  obtain ⟨_, _, _, rM'⟩ := ride m2
  obtain ⟨_, _, cE, kE, iE, fE, -, -, gE, sE, -⟩ := Cond.lays_spec (g 23 rfl)
  cases Option.some.inj ((Cond.lays_declared (g 23 rfl) gE).symm.trans Ti.found)
  obtain ⟨kE', aE⟩ := State.fieldFound?_spec gE
  cases kE'.symm.trans Lk.cls
  obtain ⟨nE, tE⟩ := State.fieldFound?_type gE (t := .int) (by decide +kernel)
  have nM := (State.fieldFound?_type rM' (t := .object "java/lang/String") (by decide +kernel)).1
  have hfb := Cond.soleField_find Ti.found Lk.cls (g 25 rfl) aB nB sB
  have hfd := Cond.soleField_find Ti.found Lk.cls (g 26 rfl) aE nE sE
  obtain ⟨comp, cO, kO, -, -, hkO, hkindO, hO⟩ := Cond.arrayOver_spec (g 27 rfl)
  obtain ⟨tyS, dS, eS, oS⟩ := Cond.laysAt frc ck' Ti.stack (g 14 rfl)
  obtain ⟨tyB, dB, eB, oB⟩ := Cond.laysAt frc ck' gB (g 22 rfl)
  obtain ⟨tyE, dE, eE, oE⟩ := Cond.laysAt frc ck' gE (g 23 rfl)
  obtain ⟨tyM, dM, eM, oM⟩ := Cond.laysAt frc ck' rM' (g 24 rfl)
  have mS := Cond.laysApart eM eS oM oS (by rw [nM, Ti.sname]; decide)
  have mB := Cond.laysApart eM eB oM oB (by rw [nM, nB]; decide)
  have mE := Cond.laysApart eM eE oM oE (by rw [nM, nE]; decide)
  -- the static
  obtain ⟨cG, iG, kG, fG, st, cS, g1, g2, g3, g4, g5, g6, g7⟩ := id G
  obtain ⟨kG', rG, eG⟩ := State.fieldFound?_setVm (s := Z) hal g1
  have rG' : u.fieldFound? tN "UNASSIGNED_STACK" steD = some (cG, kG', iG, fG) := rG
  cases Ti.un.symm.trans rG'
  have hst : st = Th.aS := Option.some.inj (g4.symm.trans ((by rw [eG] : Th.kT.statics = kG.statics).symm.trans Lk.statics) )
  subst hst
  have neS : Th.aS ≠ a := fun z => by
    rw [z] at g5; cases g5.symm.trans c1; rw [c4] at g6; cases g6
  have hsel0 : selectMethod K.e.platform u.vm cell.cls Th.fill0 = .method Th.fill0 := by
    obtain ⟨c2', r2, m2', q1, q2, q3, q4, -⟩ := Cond.selects_spec (g 28 rfl)
    cases q1.symm.trans frc
    cases q2.symm.trans (State.methodFound?_of_named Ti.fill0 (by decide))
    cases q3.symm.trans Ti.fill0
    rw [Launch.admits_selectMethod Au.admits]; exact q4
  have hSE := g 29 rfl
  have hTK := hKn.1.alikeC al1
  have hBl := hKn.2.1.alikeC al1
  rw [← uv] at hTK hBl
  obtain ⟨v, vm6, ⟨T6, L6, c6, n6⟩, -, X6', ⟨hv, C6, nn, hn, hD6, q1, q2, q3, q4, hL6, hc6, hn6⟩, come⟩ := Au.virtualBack hx (own := tN) (C := rc) (index := 27) (y := tFill) (z := tFill) hown (g 9 rfl) (g 30 rfl) (notFace_of_selects hSE) hSE (g 3 rfl) (by decide)
    (fillPaysAny (l := K.l) (W := (rest.map fun v => v.category).sum) hx (by rw [ep]; exact hl) Th Lk Ti.fill (u0 := ⟨u0, hu⟩) (self := a) (cell := cell) (cellS := cS) (fun _ => by rw [n2]; simp) (by rw [n2]; simp) (by rw [n3]) (by rw [n3]) s7 hsel0 neS (fun z => by rw [z] at g6; cases g6) g7 (tk tyS (by rw [Ti.stype]; exact fits_refV_array _ ⟨u0, hu⟩))
      ⟨{ ci198 := ciB, i198 := jB, fBack := fB' }, ⟨lB, rB, aB, sB⟩, b7⟩ hTK hBl Ti.found hO hkO hkindO hfb hfd (fun x => tk tyB (by rw [tB]; rfl)) (fun x => tk tyE (by rw [tE]; rfl)) hf (by show _ + 42 ≤ K.R.locals; exact hlo))
    (b := a) (cB := cell.cls) frc ⟨cell, by rw [X7]; exact c1, rfl, by rw [n2]; rfl⟩ (g := mkF K.m pc L (.ref a :: rest)) rfl hsz (Steps.refl _) (argsL := []) (rest := rest)
    (fun sig q => by rw [show parseMethodDescriptor tFill.desc = some ⟨[], some (.object tN)⟩ from by decide +kernel] at q; rw [← Option.some.inj q]; rfl) rfl (by show 2 * 0 + _ ≤ _; omega) hd
    (fun vmx _ => ⟨rfl, by show 0 + 1 ≤ K.R.cells - cl; omega, by show 0 + 2752 ≤ K.R.slots - sl; omega, by show T.heap[a]? = _; rw [X7]; exact c1, by show T.heap[Th.aS]? = _; rw [X7]; exact g5⟩)
  dsimp only [Pt.U, Pt.locs, Pt.cells, Pt.slots] at X6' hD6 hL6 hc6 hn6 come
  subst hv hL6 hc6 hn6
  have sm : T.sameButNew (T6.setVm T.vm) ([] ++ [⟨a, fB'.slot⟩, ⟨a, fE.slot⟩, ⟨a, Th.fStack.slot⟩]) (0 + 1) (0 + nn) := by
    have q := X6'.same
    rw [uv] at q
    rw [hU] at q
    exact State.sameButNew.of_setFrames q
  have sb : ∀ x ∈ ([⟨a, fB'.slot⟩, ⟨a, fE.slot⟩, ⟨a, Th.fStack.slot⟩] : List Loc), x.base = a := fun x hx => by
    simp only [List.mem_cons, List.not_mem_nil, or_false] at hx
    rcases hx with rfl | rfl | rfl <;> rfl
  have kp : Keep h T6.heap [a] := by
    obtain ⟨-, z1, -, -, -, z2⟩ := sm
    rw [← X7]
    refine ⟨z1, fun x cx hx hne => ?_, fun x cx hx => ?_⟩
    · obtain ⟨c', e1, e2, e3, e4⟩ := z2 x cx hx
      have : c'.slots = cx.slots := Array.ext_getElem? fun i => e4 i fun hm => hne (List.mem_singleton.mpr (sb ⟨x, i⟩ hm))
      rw [show T6.heap[x]? = some c' from e1, e2, this]
    · obtain ⟨c', e1, e2, e3, -⟩ := z2 x cx hx
      exact ⟨c', e1, by rw [e2], by rw [e2], e3⟩
  have Y := X1.moved (T₂ := T6) X6'.here X6'.tail (X6'.limits.trans (by rw [hU]; exact State.stackLimits_setFrames _ _ _)) (X6'.bytes.trans (by rw [hU]; exact State.stackBytes_setFrames _ _)) (by have q := X6'.warmed; rw [hU] at q; exact q) sm
  have Fm : Fld Z T6.heap a tN "detailMessage" msgD d0 := ⟨C6, _, _, _, _, hD6, m2, m3, by rw [q2]; exact m4, by rw [q2]; exact m5, by rw [q1]; exact m6, by rw [q4 _ mB mE mS]; exact m7⟩
  have hws : ∀ x ∈ [a], Safe Z EL vm0 h x := fun x hx => by cases List.mem_singleton.mp hx; exact sfE E h1 h2 vm0 X4 X6
  have Cr := CHr.keep kp hws X5.1
  obtain ⟨s2', v', Lo, gg, r⟩ := k T6.heap kp (E.keep kp) Fm T6 ⟨vm0, k0, _, Y.mono (by omega) (by omega), X2, Nat.le_trans X3 kp.1, X4, X5.trans Cr, fun x hx => ⟨Nat.lt_of_lt_of_le (X6 x hx).1 kp.1, Cr.safe (X6 x hx).1 (X6 x hx).2⟩, rfl, X8.app (fun x hx => by rw [sb x (by simpa using hx)]; exact ge), X9, (Old.keep (Z := Z) (n0 := Z.heap.size) ⟨rfl, X10⟩ kp (fun x hx => by cases List.mem_singleton.mp hx; exact ge)).2⟩
  exact ⟨s2', v', Lo, come.trans gg, r⟩
/-- invokespecial of a constructor whose contract asks what is known (CalK) -/
theorem Run.specialK {own : String} (hK : Ok Z EL a0 l own nm bytes ml ret R K) (hKn : Kn Z K) {by' : ByteArray} {ml' : Nat} (hy1 : y.name = "<init>") (w1 : (Jvm.Cond.methodLink own index y).before a0 Z = true) (w2 : (Jvm.Cond.instanceMethod y).before a0 Z = true) (w4 : (Jvm.Cond.code y by' ml' none).before a0 Z = true)
    (hy : y.cls ≠ "java/lang/invoke/MethodHandle" ∧ y.cls ≠ "java/lang/invoke/VarHandle") {a : Addr} (hsub : ∀ x ∈ W', x ∈ W) (hC : CalK Z EL nI a0 l R y 3 Wt (.ref a :: argsL).toArray h W' kc ks Qy) (hsz : L.size = ml)
    (hlen : ∀ sig, parseMethodDescriptor y.desc = some sig → argsL.length = sig.parameters.length) (hst : S = argsL.reverse ++ .ref a :: rest) (hW : (rest.map fun v => v.category).sum ≤ Wt) (hd : decode bytes pc = .ok (.invokespecial index, 3)) (hc : cl + kc ≤ R.cells) (hs : sl + ks ≤ R.slots)
    (k : ∀ v h', Qy v h' → h.size ≤ h'.size → Run Z EL nI K Q W h' (cl + kc) (sl + ks) (pc + 3) L (v.toList ++ rest)) : Run Z EL nI K Q W h cl sl pc L S := fun T X => by
  obtain ⟨vm0, k0, locs, X1, X2, X3, X4, X5, X6, X7, X8, X9, X10⟩ := X
  have hown := hK.fc X2
  obtain ⟨hx, rfl, rfl, rfl, rfl, -, -, -, -, hEL⟩ := id hK
  have hZ : Z.Warmed39 (K.s.setVm vm0).vm := X4
  subst hst
  obtain ⟨v, vm1, B, -, Y, hS, hg, hp, st⟩ := X1.specialBackS hx (y := y) hy1 hown (mvT hZ w1) (mvT hZ w2) (mvT hZ w4) hy (hC K.p K.e K.bl K.s K.as vm0 (hKn.1.alikeC X2.1.alike) (hKn.2.1.alikeC X2.1.alike) X4 hEL X5.1 (fun x hx => X6 x (hsub x hx)) X10) (g := mkF K.m pc L (argsL.reverse ++ .ref a :: rest)) rfl hsz (Steps.refl _) (a := a) (argsL := argsL) (rest := rest) hlen rfl (by show 2 * 0 + _ ≤ _; omega) hd (fun _ _ => ⟨rfl, X7, hc, hs⟩)
  rw [X7] at hg
  obtain ⟨hq, Y'⟩ := St.back hK X2 X3 X4 X5 X6 X8 X9 Y hS hg hp
  obtain ⟨s2, v', Lo, g, r⟩ := k v _ hq hg B.U Y'
  exact ⟨s2, v', Lo, st.trans g, r⟩
end Fill
end Jvm.OwnK
/- laws to paste: Road.lenW, Road.eqW, Road.backV, Road.codOf (cut by pick.py; bodies as the Statement names them) -/
namespace Jvm.Pilot.@@N@@
namespace StrChars
open Jvm Sem ClassFile Op Lib Jvm.Stand Jvm.Free.XT Jvm.Free.ALB Jvm.Free.JM Jvm.Free
open Jvm.Lib.Cold (StaticIs)
/-- a char array whose places are chars -/
def Ch (a : Addr) (A : Cell) (U : State) : Prop := Arr .char a A U ∧ Typed .char A
theorem Ch.mv {a : Addr} {A : Cell} {U U' : State} (h : Ch a A U) (hal : U.vm.Alike U'.vm) (hh : U'.heap = U.heap) : Ch a A U' := ⟨h.1.mv hal hh, h.2⟩
theorem Ch.keep {a : Addr} {A : Cell} {U U' : State} (h : Ch a A U) (hal : U.vm.Alike U'.vm) (hk : U'.heap[a]? = some A) : Ch a A U' := ⟨h.1.keep hal hk, h.2⟩
/-- what place i of a char[]'s cell holds -/
def cv (A : Cell) (i : Nat) : Int32 := match A.slots[i]? with | some (.int x) => x | _ => 0
theorem Ch.get {a : Addr} {A : Cell} {U : State} (h : Ch a A U) {i : Nat} (hi : i < A.slots.size) : A.slots[i]? = some (.int (cv A i)) := by
  have e := Array.getElem?_eq_getElem hi
  have f := h.2 i _ e
  unfold cv; rw [e]
  generalize A.slots[i] = v at f
  cases v <;> simp [fits] at f ⊢
/-- the byte that i2b leaves of a char -/
def lo8 (x : Int32) : Int32 := x.toInt8.toInt32
theorem fits_lo8 (y : Int32) : fits .byte (.int (lo8 y)) = true := by
  have h1 := y.toInt8.le_toInt
  have h2 := y.toInt8.toInt_lt
  simp only [lo8, fits, Bool.and_eq_true, decide_eq_true_eq, Int32.le_iff_toInt_le, Int8.toInt_toInt32, show (-128 : Int32).toInt = -128 from by decide, show (127 : Int32).toInt = 127 from by decide]
  omega
/-- A' is A but that each place j of lo .. hi - 1 holds f j -/
def Laid (A A' : Cell) (lo hi : Nat) (f : Nat → Value) : Prop := A'.cls = A.cls ∧ A'.vm = A.vm ∧ A'.slots.size = A.slots.size ∧ ∀ i, A'.slots[i]? = if lo ≤ i ∧ i < hi then some (f i) else A.slots[i]?
theorem Laid.zero (A : Cell) (lo : Nat) (f : Nat → Value) : Laid A A lo (lo + 0) f := ⟨rfl, rfl, rfl, fun i => by rw [if_neg (by omega)]⟩
theorem Laid.step {A Ak : Cell} {lo k : Nat} {f : Nat → Value} {v : Value} (h : Laid A Ak lo k f) (hlo : lo ≤ k) (hk : k < Ak.slots.size) (hv : v = f k) : Laid A (Ak.setSlot k v) lo (k + 1) f := by
  refine ⟨h.1, h.2.1, by simpa [Cell.setSlot] using h.2.2.1, fun i => ?_⟩
  by_cases e : k = i
  · subst e; rw [Cell.slots_setSlot_self v hk, if_pos (by omega), hv]
  · rw [Cell.slots_setSlot_ne v e, h.2.2.2 i]
    by_cases q : lo ≤ i ∧ i < k
    · rw [if_pos q, if_pos (by omega)]
    · rw [if_neg q, if_neg (by omega)]
def U16 : String := "java/lang/StringUTF16"
namespace Cmp5
def yN : MethodName := ⟨"java/lang/StringUTF16", "compress", "([CI[BII)I"⟩
abbrev yB : ByteArray := jdk_52_method_21_code
theorem d0 : decode yB 0 = .ok (.iconst 0, 1) := by decide +kernel
theorem d1 : decode yB 1 = .ok (.istore 5, 2) := by decide +kernel
theorem d3 : decode yB 3 = .ok (.iload 5, 2) := by decide +kernel
theorem d5 : decode yB 5 = .ok (.iload 4, 2) := by decide +kernel
theorem d7 : decode yB 7 = .ok (.if_icmp (.ge) 37, 3) := by decide +kernel
theorem d10 : decode yB 10 = .ok (.aload_n 0, 1) := by decide +kernel
theorem d11 : decode yB 11 = .ok (.iload_n 1, 1) := by decide +kernel
theorem d12 : decode yB 12 = .ok (.caload, 1) := by decide +kernel
theorem d13 : decode yB 13 = .ok (.istore 6, 2) := by decide +kernel
theorem d15 : decode yB 15 = .ok (.iload 6, 2) := by decide +kernel
theorem d17 : decode yB 17 = .ok (.sipush 255, 3) := by decide +kernel
theorem d20 : decode yB 20 = .ok (.if_icmp (.le) 6, 3) := by decide +kernel
theorem d26 : decode yB 26 = .ok (.aload_n 2, 1) := by decide +kernel
theorem d27 : decode yB 27 = .ok (.iload_n 3, 1) := by decide +kernel
theorem d28 : decode yB 28 = .ok (.iload 6, 2) := by decide +kernel
theorem d30 : decode yB 30 = .ok (.i2b, 1) := by decide +kernel
theorem d31 : decode yB 31 = .ok (.bastore, 1) := by decide +kernel
theorem d32 : decode yB 32 = .ok (.iinc 1 1, 3) := by decide +kernel
theorem d35 : decode yB 35 = .ok (.iinc 3 1, 3) := by decide +kernel
theorem d38 : decode yB 38 = .ok (.iinc 5 1, 3) := by decide +kernel
theorem d41 : decode yB 41 = .ok (.goto (-38), 3) := by decide +kernel
theorem d44 : decode yB 44 = .ok (.iload 4, 2) := by decide +kernel
theorem d46 : decode yB 46 = .ok (.ireturn, 1) := by decide +kernel
def site : List Cond := []
def tab : Cond := tabOf yN yB 7 (some .int) site
def P (b : Addr) (A : Cell) (d : Addr) (B : Cell) (o q len : Nat) (args : Array Value) (s : State) : Prop := args = #[.ref b, .int (Int32.ofNat o), .ref d, .int (Int32.ofNat q), .int (Int32.ofNat len)] ∧ Ch b A s ∧ Arr .byte d B s ∧ b ≠ d ∧ o + len ≤ A.slots.size ∧ q + len ≤ B.slots.size ∧ ∀ i, i < len → ¬ 255 < cv A (o + i)
def E (b : Addr) (A : Cell) (d : Addr) (B : Cell) (o q len : Nat) (r : Option Value) (s u : State) : Prop := r = some (.int (Int32.ofNat len)) ∧ ∃ B', Put d B' s u ∧ Laid B B' q (q + len) (fun j => Value.int (lo8 (cv A (o + (j - q)))))
/-- no char of the range above 255: len; the places written hold each char's low byte -/
theorem law (l : Launch) (b : Addr) (A : Cell) (d : Addr) (B : Cell) (o q len : Nat) : Law l yN 5 5 0 0 yB 7 (some .int) site (P b A d B o q len) (E b A d B o q len) (copyLocs d q len) 0 0 := by
  refine Law.of_walk (plainFor_of_name (by decide +kernel)) (by decide +kernel) (by decide +kernel) (by decide) (fun _ _ h => by rw [h.1]; rfl) (fun _ U U' hal hh h => ⟨h.1, h.2.1.mv hal hh, h.2.2.1.mv hal hh, h.2.2.2⟩) (fun r U U' V V' h1 hal h2 h => ⟨h.1, h.2.elim fun B' q => ⟨B', q.1.mv h1 h2, q.2⟩⟩) ?_
  intro p e s m args below meth c s₁ X0 hexec hbytes hml hret hlk hnm hown hh0 W hP
  obtain ⟨rfl, hA, hB, hne, l1, l2, hp⟩ := hP
  have c1 : Steps p.tables e below (s₁.setTop (entryFrame m #[.ref b, .int (Int32.ofNat o), .ref d, .int (Int32.ofNat q), .int (Int32.ofNat len)] 7)) (s₁.setTop (mkF m 0 #[.val (.ref b), .val (.int (Int32.ofNat o)), .val (.ref d), .val (.int (Int32.ofNat q)), .val (.int (Int32.ofNat len)), .unset, .unset] [])) := entry rfl
  have hA0 := hA.1.mv X0.warmed.alike hh0
  have hB0 := hB.mv X0.warmed.alike hh0
  have a31 := hA.1.2.2.2
  have c2 : Steps p.tables e below (s₁.setTop (entryFrame m #[.ref b, .int (Int32.ofNat o), .ref d, .int (Int32.ofNat q), .int (Int32.ofNat len)] 7)) (s₁.setTop (mkF m 3 #[.val (.ref b), .val (.int (Int32.ofNat o)), .val (.ref d), .val (.int (Int32.ofNat q)), .val (.int (Int32.ofNat len)), .val (.int 0), .unset] [])) := c1.trans (by
    refine iconstV X0.here hexec rfl 0 (hb hbytes d0) (by decide) ?_
    refine XS.istore X0.here hexec rfl (hb hbytes d1) rfl rfl ?_
    exact Steps.refl _)
  have loop : ∀ (r i : Nat), i + r = len → ∀ (z : Slot), (z = .unset ∨ ∃ w, z = .val w ∧ w.category = 1) → ∀ (Tl : State) (Bk : Cell), Stand p l e { frames := 0, locals := 0, cells := 0, slots := 0 } s m #[.ref b, .int (Int32.ofNat o), .ref d, .int (Int32.ofNat q), .int (Int32.ofNat len)] below meth c Tl ([] ++ copyLocs d q i) 0 0 → Put d Bk s₁ Tl → Laid B Bk q (q + i) (fun j => Value.int (lo8 (cv A (o + (j - q))))) →
      Steps p.tables e below (s₁.setTop (entryFrame m #[.ref b, .int (Int32.ofNat o), .ref d, .int (Int32.ofNat q), .int (Int32.ofNat len)] 7)) (Tl.setTop (mkF m 3 #[.val (.ref b), .val (.int (Int32.ofNat (o + i))), .val (.ref d), .val (.int (Int32.ofNat (q + i))), .val (.int (Int32.ofNat len)), .val (.int (Int32.ofNat i)), z] [])) → ∃ (T' : State) (B' : Cell) (z' : Slot), Stand p l e { frames := 0, locals := 0, cells := 0, slots := 0 } s m #[.ref b, .int (Int32.ofNat o), .ref d, .int (Int32.ofNat q), .int (Int32.ofNat len)] below meth c T' ([] ++ copyLocs d q len) 0 0 ∧ Put d B' s₁ T' ∧ Laid B B' q (q + len) (fun j => Value.int (lo8 (cv A (o + (j - q))))) ∧
      Steps p.tables e below (s₁.setTop (entryFrame m #[.ref b, .int (Int32.ofNat o), .ref d, .int (Int32.ofNat q), .int (Int32.ofNat len)] 7)) (T'.setTop (mkF m 3 #[.val (.ref b), .val (.int (Int32.ofNat (o + len))), .val (.ref d), .val (.int (Int32.ofNat (q + len))), .val (.int (Int32.ofNat len)), .val (.int (Int32.ofNat len)), z'] [])) := by
    intro r
    induction r with
    | zero =>
      intro i hi z hz Tl Bk Xl pl fl cl
      have hil : i = len := by omega
      rw [hil] at Xl fl cl
      exact ⟨Tl, Bk, z, Xl, pl, fl, cl⟩
    | succ r ih =>
      intro i hi z hz Tl Bk Xl pl fl cl
      have all := X0.warmed.alike.symm.trans Xl.warmed.alike
      have hAl := hA0.keep all (pl.other hne hA0.1)
      have hBk := hB0.like all pl.1 fl.1 fl.2.1 fl.2.2.1
      have hlt : q + i < Bk.slots.size := by rw [fl.2.2.1]; omega
      have c3 : Steps p.tables e below (s₁.setTop (entryFrame m #[.ref b, .int (Int32.ofNat o), .ref d, .int (Int32.ofNat q), .int (Int32.ofNat len)] 7)) (Tl.setTop (mkF m 12 #[.val (.ref b), .val (.int (Int32.ofNat (o + i))), .val (.ref d), .val (.int (Int32.ofNat (q + i))), .val (.int (Int32.ofNat len)), .val (.int (Int32.ofNat i)), z] [.int (Int32.ofNat (o + i)), .ref b])) := cl.trans (by
        refine XS.iload Xl.here hexec rfl (hb hbytes d3) rfl ?_
        refine XS.iload Xl.here hexec rfl (hb hbytes d5) rfl ?_
        refine XS.icmpNo Xl.here hexec rfl (hb hbytes d7) rfl (ii_ge_f (lt32 (by omega) (by omega))) ?_
        refine XS.aloadN Xl.here hexec rfl (hb hbytes d10) rfl rfl ?_
        refine XS.iloadN Xl.here hexec rfl (hb hbytes d11) rfl ?_
        exact Steps.refl _)
      have c4 : Steps p.tables e below (s₁.setTop (entryFrame m #[.ref b, .int (Int32.ofNat o), .ref d, .int (Int32.ofNat q), .int (Int32.ofNat len)] 7)) (Tl.setTop (mkF m 13 #[.val (.ref b), .val (.int (Int32.ofNat (o + i))), .val (.ref d), .val (.int (Int32.ofNat (q + i))), .val (.int (Int32.ofNat len)), .val (.int (Int32.ofNat i)), z] [.int (cv A (o + i))])) := c3.trans (by
        refine Xl.aget hexec hAl rfl (hA.get (i := o + i) (by omega)) rfl rfl (hb hbytes d12) ?_
        exact Steps.refl _)
      have c5 : Steps p.tables e below (s₁.setTop (entryFrame m #[.ref b, .int (Int32.ofNat o), .ref d, .int (Int32.ofNat q), .int (Int32.ofNat len)] 7)) (Tl.setTop (mkF m 15 #[.val (.ref b), .val (.int (Int32.ofNat (o + i))), .val (.ref d), .val (.int (Int32.ofNat (q + i))), .val (.int (Int32.ofNat len)), .val (.int (Int32.ofNat i)), .val (.int (cv A (o + i)))] [])) := c4.trans (by
        refine XS.istoreS Xl.here hexec rfl (hb hbytes d13) rfl rfl hz ?_
        exact Steps.refl _)
      have c6 : Steps p.tables e below (s₁.setTop (entryFrame m #[.ref b, .int (Int32.ofNat o), .ref d, .int (Int32.ofNat q), .int (Int32.ofNat len)] 7)) (Tl.setTop (mkF m 31 #[.val (.ref b), .val (.int (Int32.ofNat (o + i))), .val (.ref d), .val (.int (Int32.ofNat (q + i))), .val (.int (Int32.ofNat len)), .val (.int (Int32.ofNat i)), .val (.int (cv A (o + i)))] [.int (lo8 (cv A (o + i))), .int (Int32.ofNat (q + i)), .ref d])) := c5.trans (by
        refine XS.iload Xl.here hexec rfl (hb hbytes d15) rfl ?_
        refine sipushV Xl.here hexec rfl 255 (hb hbytes d17) (by decide) ?_
        refine XS.icmpYes Xl.here hexec rfl (pc0 := 20) rfl (hb hbytes d20) rfl (ii_le_t (hp i (by omega))) (by decide) rfl ?_
        refine XS.aloadN Xl.here hexec rfl (hb hbytes d26) rfl rfl ?_
        refine XS.iloadN Xl.here hexec rfl (hb hbytes d27) rfl ?_
        refine XS.iload Xl.here hexec rfl (hb hbytes d28) rfl ?_
        refine i2b Xl.here hexec rfl (hb hbytes d30) rfl ?_
        exact Steps.refl _)
      obtain ⟨T7, X7, p7, st7⟩ := Xl.aput hexec hBk rfl hlt rfl (fits_lo8 (cv A (o + i))) (g := (mkF m 31 #[.val (.ref b), .val (.int (Int32.ofNat (o + i))), .val (.ref d), .val (.int (Int32.ofNat (q + i))), .val (.int (Int32.ofNat len)), .val (.int (Int32.ofNat i)), .val (.int (cv A (o + i)))] [.int (lo8 (cv A (o + i))), .int (Int32.ofNat (q + i)), .ref d])) rfl (rest := []) rfl (hb hbytes d31)
      have c8 : Steps p.tables e below (s₁.setTop (entryFrame m #[.ref b, .int (Int32.ofNat o), .ref d, .int (Int32.ofNat q), .int (Int32.ofNat len)] 7)) (T7.setTop (mkF m 32 #[.val (.ref b), .val (.int (Int32.ofNat (o + i))), .val (.ref d), .val (.int (Int32.ofNat (q + i))), .val (.int (Int32.ofNat len)), .val (.int (Int32.ofNat i)), .val (.int (cv A (o + i)))] [])) := c6.trans (st7 _ (Steps.refl _))
      have c9 : Steps p.tables e below (s₁.setTop (entryFrame m #[.ref b, .int (Int32.ofNat o), .ref d, .int (Int32.ofNat q), .int (Int32.ofNat len)] 7)) (T7.setTop (mkF m 3 #[.val (.ref b), .val (.int (Int32.ofNat (o + i) + 1)), .val (.ref d), .val (.int (Int32.ofNat (q + i) + 1)), .val (.int (Int32.ofNat len)), .val (.int (Int32.ofNat i + 1)), .val (.int (cv A (o + i)))] [])) := c8.trans (by
        refine iincV X7.here hexec rfl 1 (hb hbytes d32) (by decide) rfl rfl ?_
        refine iincV X7.here hexec rfl 1 (hb hbytes d35) (by decide) rfl rfl ?_
        refine iincV X7.here hexec rfl 1 (hb hbytes d38) (by decide) rfl rfl ?_
        refine XS.goto X7.here hexec rfl (pc0 := 41) rfl (hb hbytes d41) (by decide) rfl ?_
        exact Steps.refl _)
      have c10 : Steps p.tables e below (s₁.setTop (entryFrame m #[.ref b, .int (Int32.ofNat o), .ref d, .int (Int32.ofNat q), .int (Int32.ofNat len)] 7)) (T7.setTop (mkF m 3 #[.val (.ref b), .val (.int (Int32.ofNat (o + (i + 1)))), .val (.ref d), .val (.int (Int32.ofNat (q + (i + 1)))), .val (.int (Int32.ofNat len)), .val (.int (Int32.ofNat (i + 1))), .val (.int (cv A (o + i)))] [])) := by
        have := c9
        rw [succ32, succ32, succ32] at this
        exact this
      exact ih (i + 1) (by omega) _ (Or.inr ⟨_, rfl, rfl⟩) T7 _ (by rw [copyLocs_step, ← List.append_assoc]; exact X7) (pl.trans p7) (fl.step (by omega) hlt (by simp)) c10
  obtain ⟨T9, B9, z9, X9, p9, f9, g9⟩ := loop len 0 (by omega) .unset (Or.inl rfl) s₁ B (by simpa [copyLocs] using X0) ⟨hB0.1, fun _ _ => rfl, rfl⟩ (Laid.zero _ _ _) c2
  have c11 : Steps p.tables e below (s₁.setTop (entryFrame m #[.ref b, .int (Int32.ofNat o), .ref d, .int (Int32.ofNat q), .int (Int32.ofNat len)] 7)) (T9.setTop (mkF m 46 #[.val (.ref b), .val (.int (Int32.ofNat (o + len))), .val (.ref d), .val (.int (Int32.ofNat (q + len))), .val (.int (Int32.ofNat len)), .val (.int (Int32.ofNat len)), z9] [.int (Int32.ofNat len)])) := g9.trans (by
    refine XS.iload X9.here hexec rfl (hb hbytes d3) rfl ?_
    refine XS.iload X9.here hexec rfl (hb hbytes d5) rfl ?_
    refine XS.icmpYes X9.here hexec rfl (pc0 := 7) rfl (hb hbytes d7) rfl (ii_ge_t (nlt32 (by omega) (Nat.le_refl _))) (by decide) rfl ?_
    refine XS.iload X9.here hexec rfl (hb hbytes d44) rfl ?_
    exact Steps.refl _)
  exact ⟨T9, some (.int (Int32.ofNat len)), _, _, _, X9, by simp, rfl, rfl, (fun h => by cases h), ⟨rfl, B9, p9.from hh0, f9⟩, fun fs hl => c11.trans (X9.ireturnOut hexec hret rfl (Or.inl rfl) (hb hbytes d46) hl)⟩
end Cmp5
namespace Cmp3
def yN : MethodName := ⟨"java/lang/StringUTF16", "compress", "([CII)[B"⟩
abbrev yB : ByteArray := jdk_52_method_16_code
theorem d0 : decode yB 0 = .ok (.iload_n 2, 1) := by decide +kernel
theorem d1 : decode yB 1 = .ok (.newarray .byte, 2) := by decide +kernel
theorem d3 : decode yB 3 = .ok (.astore_n 3, 1) := by decide +kernel
theorem d4 : decode yB 4 = .ok (.aload_n 0, 1) := by decide +kernel
theorem d5 : decode yB 5 = .ok (.iload_n 1, 1) := by decide +kernel
theorem d6 : decode yB 6 = .ok (.aload_n 3, 1) := by decide +kernel
theorem d7 : decode yB 7 = .ok (.iconst 0, 1) := by decide +kernel
theorem d8 : decode yB 8 = .ok (.iload_n 2, 1) := by decide +kernel
theorem d9 : decode yB 9 = .ok (.invokestatic 115, 3) := by decide +kernel
theorem d12 : decode yB 12 = .ok (.istore 4, 2) := by decide +kernel
theorem d14 : decode yB 14 = .ok (.iload 4, 2) := by decide +kernel
theorem d16 : decode yB 16 = .ok (.iload_n 2, 1) := by decide +kernel
theorem d17 : decode yB 17 = .ok (.if_icmp (.eq) 40, 3) := by decide +kernel
theorem d57 : decode yB 57 = .ok (.aload_n 3, 1) := by decide +kernel
theorem d58 : decode yB 58 = .ok (.areturn, 1) := by decide +kernel
def site : List Cond := [.arrayClass .byte, Cmp5.tab] ++ staticW U16 115 Cmp5.yN
def tab : Cond := tabOf yN yB 6 (some (.array .byte)) site
def P (b : Addr) (A : Cell) (o len : Nat) (args : Array Value) (s : State) : Prop := args = #[.ref b, .int (Int32.ofNat o), .int (Int32.ofNat len)] ∧ Ch b A s ∧ o + len ≤ A.slots.size ∧ len ≤ 536870912 ∧ ∀ i, i < len → ¬ 255 < cv A (o + i)
def E (b : Addr) (A : Cell) (o len : Nat) (r : Option Value) (s u : State) : Prop := NewArr .byte "[B" len (fun j => .int (lo8 (cv A (o + j)))) r s u ∧ u.heap.size = s.heap.size + 1
/-- no char of the range above 255: a new byte[] of their low bytes -/
theorem law (l : Launch) (b : Addr) (A : Cell) (o len : Nat) : Law l yN 3 3 1 18 yB 6 (some (.array .byte)) site (P b A o len) (E b A o len) [] 1 len := by
  refine Law.of_walk (plainFor_of_name (by decide +kernel)) (by decide +kernel) (by decide +kernel) (by decide) (fun _ _ h => by rw [h.1]; rfl) (fun _ U U' hal hh h => ⟨h.1, h.2.1.mv hal hh, h.2.2⟩) (fun r U U' V V' h1 hal h2 h => ⟨NewArr.mv r U U' V V' h1 hal h2 h.1, by rw [h1, h2]; exact h.2⟩) ?_
  intro p e s m args below meth c s₁ X0 hexec hbytes hml hret hlk hnm hown hh0 W hP
  obtain ⟨rfl, hA, l1, l2, hp⟩ := hP
  have a31 := hA.1.2.2.2
  have c1 : Steps p.tables e below (s₁.setTop (entryFrame m #[.ref b, .int (Int32.ofNat o), .int (Int32.ofNat len)] 6)) (s₁.setTop (mkF m 0 #[.val (.ref b), .val (.int (Int32.ofNat o)), .val (.int (Int32.ofNat len)), .unset, .unset, .unset] [])) := entry rfl
  have c2 : Steps p.tables e below (s₁.setTop (entryFrame m #[.ref b, .int (Int32.ofNat o), .int (Int32.ofNat len)] 6)) (s₁.setTop (mkF m 1 #[.val (.ref b), .val (.int (Int32.ofNat o)), .val (.int (Int32.ofNat len)), .unset, .unset, .unset] [.int (Int32.ofNat len)])) := c1.trans (by
    refine XS.iloadN X0.here hexec rfl (hb hbytes d0) rfl ?_
    exact Steps.refl _)
  obtain ⟨T3, B3, X3, ba3, bs3, bv3, bh3, bf3, st3⟩ := X0.anew hexec (atype := .byte) (wk W (.arrayClass .byte)) rfl (by show len * 1 ≤ _; omega) (by omega) (g := (mkF m 1 #[.val (.ref b), .val (.int (Int32.ofNat o)), .val (.int (Int32.ofNat len)), .unset, .unset, .unset] [.int (Int32.ofNat len)])) rfl (hb hbytes d1) (rest := []) rfl (Nat.le_refl _) (by show 0 + len ≤ len; omega)
  rw [hh0] at ba3 st3
  have kp3 : XT.Kept s T3 := (XT.Kept.of_eq hh0).push bh3
  have hA3 := hA.keep X3.warmed.alike (kp3 _ _ hA.1.1)
  have hne : b ≠ s.heap.size := hA.1.ne
  have c4 : Steps p.tables e below (s₁.setTop (entryFrame m #[.ref b, .int (Int32.ofNat o), .int (Int32.ofNat len)] 6)) (T3.setTop (mkF m 3 #[.val (.ref b), .val (.int (Int32.ofNat o)), .val (.int (Int32.ofNat len)), .unset, .unset, .unset] [.ref s.heap.size])) := c2.trans (st3 _ (Steps.refl _))
  have c5 : Steps p.tables e below (s₁.setTop (entryFrame m #[.ref b, .int (Int32.ofNat o), .int (Int32.ofNat len)] 6)) (T3.setTop (mkF m 9 #[.val (.ref b), .val (.int (Int32.ofNat o)), .val (.int (Int32.ofNat len)), .val (.ref s.heap.size), .unset, .unset] [.int (Int32.ofNat len), .int 0, .ref s.heap.size, .int (Int32.ofNat o), .ref b])) := c4.trans (by
    refine XS.astoreN X3.here hexec rfl (hb hbytes d3) rfl rfl rfl ?_
    refine XS.aloadN X3.here hexec rfl (hb hbytes d4) rfl rfl ?_
    refine XS.iloadN X3.here hexec rfl (hb hbytes d5) rfl ?_
    refine XS.aloadN X3.here hexec rfl (hb hbytes d6) rfl rfl ?_
    refine iconstV X3.here hexec rfl 0 (hb hbytes d7) (by decide) ?_
    refine XS.iloadN X3.here hexec rfl (hb hbytes d8) rfl ?_
    exact Steps.refl _)
  obtain ⟨v6, T6, X6, E6, g6⟩ := X3.callS hexec (Cmp5.law l b A s.heap.size B3 o 0 len) hown (wks W (staticW U16 115 Cmp5.yN)) (wk W Cmp5.tab) (W := 0) (Nat.le_of_ble_eq_true rfl) (Nat.le_of_ble_eq_true rfl) (Nat.le_refl _) (by show 0 + len + 0 ≤ len; omega) (g := (mkF m 9 #[.val (.ref b), .val (.int (Int32.ofNat o)), .val (.int (Int32.ofNat len)), .val (.ref s.heap.size), .unset, .unset] [.int (Int32.ofNat len), .int (Int32.ofNat 0), .ref s.heap.size, .int (Int32.ofNat o), .ref b])) rfl (by rw [hml]; rfl) c5 (argsL := [.ref b, .int (Int32.ofNat o), .ref s.heap.size, .int (Int32.ofNat 0), .int (Int32.ofNat len)]) (rest := []) rfl rfl (by show 2 * 0 + 0 ≤ _; decide) (hb hbytes d9) (⟨rfl, hA3, ba3, hne, l1, by rw [bs3]; simp, hp⟩)
  obtain ⟨rfl, B6, p6, f6⟩ := E6
  have c7 : Steps p.tables e below (s₁.setTop (entryFrame m #[.ref b, .int (Int32.ofNat o), .int (Int32.ofNat len)] 6)) (T6.setTop (mkF m 12 #[.val (.ref b), .val (.int (Int32.ofNat o)), .val (.int (Int32.ofNat len)), .val (.ref s.heap.size), .unset, .unset] [.int (Int32.ofNat len)])) := g6
  have c8 : Steps p.tables e below (s₁.setTop (entryFrame m #[.ref b, .int (Int32.ofNat o), .int (Int32.ofNat len)] 6)) (T6.setTop (mkF m 58 #[.val (.ref b), .val (.int (Int32.ofNat o)), .val (.int (Int32.ofNat len)), .val (.ref s.heap.size), .val (.int (Int32.ofNat len)), .unset] [.ref s.heap.size])) := c7.trans (by
    refine XS.istore X6.here hexec rfl (hb hbytes d12) rfl rfl ?_
    refine XS.iload X6.here hexec rfl (hb hbytes d14) rfl ?_
    refine XS.iloadN X6.here hexec rfl (hb hbytes d16) rfl ?_
    refine XS.icmpYes X6.here hexec rfl (pc0 := 17) rfl (hb hbytes d17) rfl (ii_eq_t rfl) (by decide) rfl ?_
    refine XS.aloadN X6.here hexec rfl (hb hbytes d57) rfl rfl ?_
    exact Steps.refl _)
  have X8 := X6.wide (L' := []) (cells' := 1) (slots' := len) (fun x hx hlt => by
    simp only [List.nil_append, copyLocs, List.mem_map, List.mem_range] at hx
    obtain ⟨i, -, rfl⟩ := hx
    exact absurd hlt (Nat.lt_irrefl _)) (Nat.le_refl _) (by omega)
  exact ⟨T6, some (.ref s.heap.size), _, _, _, X8, rfl, rfl, rfl, (fun h => by cases h), ⟨⟨rfl, B6, ba3.like (X3.warmed.alike.symm.trans X6.warmed.alike) p6.1 f6.1 f6.2.1 f6.2.2.1, f6.2.1.trans bv3, by rw [X6.warmed.alike.findClass, f6.1]; exact bf3, by rw [f6.2.2.1, bs3]; simp, fun j hj => by rw [f6.2.2.2 j, if_pos (by omega)]; rfl, kp3.put p6 (Nat.le_refl _)⟩, by rw [p6.2.2, bh3, hh0]; simp⟩, fun fs hl => c8.trans (X8.areturnOut hexec rfl hret rfl (hb hbytes d58) hl)⟩
end Cmp3
namespace CodL
def yN : MethodName := ⟨"java/lang/StringUTF16", "coderFromArrayLen", "([BI)B"⟩
abbrev yB : ByteArray := jdk_52_method_15_code
theorem d0 : decode yB 0 = .ok (.iload_n 1, 1) := by decide +kernel
theorem d1 : decode yB 1 = .ok (.aload_n 0, 1) := by decide +kernel
theorem d2 : decode yB 2 = .ok (.arraylength, 1) := by decide +kernel
theorem d3 : decode yB 3 = .ok (.isub, 1) := by decide +kernel
theorem d4 : decode yB 4 = .ok (.bipush 31, 2) := by decide +kernel
theorem d6 : decode yB 6 = .ok (.iushr, 1) := by decide +kernel
theorem d7 : decode yB 7 = .ok (.i2b, 1) := by decide +kernel
theorem d8 : decode yB 8 = .ok (.ireturn, 1) := by decide +kernel
def site : List Cond := []
def tab : Cond := tabOf yN yB 2 (some .byte) site
def P (d : Addr) (B : Cell) (args : Array Value) (s : State) : Prop := args = #[.ref d, .int (Int32.ofNat B.slots.size)] ∧ Arr .byte d B s
def E (r : Option Value) (s u : State) : Prop := XT.PureE (some (.int 0)) r s u
/-- an array as long as the number of chars: LATIN1 -/
theorem law (l : Launch) (d : Addr) (B : Cell) : Law l yN 2 2 0 0 yB 2 (some .byte) site (P d B) E [] 0 0 := by
  refine Law.of_walk (plainFor_of_name (by decide +kernel)) (by decide +kernel) (by decide +kernel) (by decide) (fun _ _ h => by rw [h.1]; rfl) (fun _ U U' hal hh h => ⟨h.1, h.2.mv hal hh⟩) (fun r U U' V V' h1 hal h2 h => XT.PureE.mv r U U' V V' h1 hal h2 h) ?_
  intro p e s m args below meth c s₁ X0 hexec hbytes hml hret hlk hnm hown hh0 W hP
  obtain ⟨rfl, hB⟩ := hP
  have hB0 := hB.mv X0.warmed.alike hh0
  have c1 : Steps p.tables e below (s₁.setTop (entryFrame m #[.ref d, .int (Int32.ofNat B.slots.size)] 2)) (s₁.setTop (mkF m 0 #[.val (.ref d), .val (.int (Int32.ofNat B.slots.size))] [])) := entry rfl
  have c2 : Steps p.tables e below (s₁.setTop (entryFrame m #[.ref d, .int (Int32.ofNat B.slots.size)] 2)) (s₁.setTop (mkF m 2 #[.val (.ref d), .val (.int (Int32.ofNat B.slots.size))] [.ref d, .int (Int32.ofNat B.slots.size)])) := c1.trans (by
    refine XS.iloadN X0.here hexec rfl (hb hbytes d0) rfl ?_
    refine XS.aloadN X0.here hexec rfl (hb hbytes d1) rfl rfl ?_
    exact Steps.refl _)
  have c3 : Steps p.tables e below (s₁.setTop (entryFrame m #[.ref d, .int (Int32.ofNat B.slots.size)] 2)) (s₁.setTop (mkF m 8 #[.val (.ref d), .val (.int (Int32.ofNat B.slots.size))] [.int (lo8 (ushr (Int32.ofNat B.slots.size - Int32.ofNat B.slots.size) 31))])) := c2.trans (by
    refine X0.alen hexec hB0 rfl rfl (hb hbytes d2) ?_
    refine XS.isub X0.here hexec rfl (hb hbytes d3) rfl ?_
    refine bipushV X0.here hexec rfl 31 (hb hbytes d4) (by decide) ?_
    refine iushr X0.here hexec rfl (hb hbytes d6) rfl ?_
    refine i2b X0.here hexec rfl (hb hbytes d7) rfl ?_
    exact Steps.refl _)
  have e0 : lo8 (ushr (Int32.ofNat B.slots.size - Int32.ofNat B.slots.size) 31) = 0 := by rw [Int32.sub_self]; decide
  rw [e0] at c3
  exact ⟨s₁, some (.int 0), _, _, _, X0, rfl, rfl, rfl, (fun h => by cases h), ⟨rfl, hh0⟩, fun fs hl => c3.trans (X0.ireturnOut hexec hret rfl (Or.inr (Or.inr (Or.inl rfl))) (hb hbytes d8) hl)⟩
end CodL
/-- the String at a is Latin-1 over a new byte[] (the heap's one new cell): the low bytes of the len chars of A from o on; every cell but a is kept -/
def Got (a : Addr) (D : Cell) (fV fC : Field) (A : Cell) (o len : Nat) (r : Option Value) (s u : State) : Prop := r = none ∧ ∃ D' V : Cell, Blank "java/lang/String" a D' u ∧ Same D D' [fV.slot, fC.slot] ∧ D'.slots[fV.slot]? = some (.ref s.heap.size) ∧ D'.slots[fC.slot]? = some (.int 0) ∧ Arr .byte s.heap.size V u ∧ V.vm = .none ∧ u.vm.findClass "[B" = some V.cls ∧ V.slots.size = len ∧ (∀ j, j < len → V.slots[j]? = some (.int (lo8 (cv A (o + j))))) ∧ (∀ (y : Addr) (c : Cell), y ≠ a → s.heap[y]? = some c → u.heap[y]? = some c) ∧ u.heap.size = s.heap.size + 1
theorem Got.mv {a : Addr} {D A : Cell} {fV fC : Field} {o len : Nat} : ∀ r (U U' V V' : State), U'.heap = U.heap → V.vm.Alike V'.vm → V'.heap = V.heap → Got a D fV fC A o len r U V → Got a D fV fC A o len r U' V' :=
  fun r U U' V V' h1 hal h2 ⟨e0, D', X, a1, a2, a3, a4, a5, a6, a7, a8, a9, a10, a11⟩ => ⟨e0, D', X, a1.mv hal h2, a2, by rw [h1]; exact a3, a4, by rw [h1]; exact a5.mv hal h2, a6, by rw [hal.findClass]; exact a7, a8, a9, by rw [h1, h2]; exact a10, by rw [h1, h2]; exact a11⟩
namespace New4
def yN : MethodName := ⟨"java/lang/String", "<init>", "([CIILjava/lang/Void;)V"⟩
abbrev yB : ByteArray := jdk_42_method_149_code
theorem d0 : decode yB 0 = .ok (.aload_n 0, 1) := by decide +kernel
theorem d1 : decode yB 1 = .ok (.invokespecial 1, 3) := by decide +kernel
theorem d4 : decode yB 4 = .ok (.iload_n 3, 1) := by decide +kernel
theorem d5 : decode yB 5 = .ok (.ifCond (.ne) 22, 3) := by decide +kernel
theorem d27 : decode yB 27 = .ok (.getstatic 38, 3) := by decide +kernel
theorem d30 : decode yB 30 = .ok (.ifCond (.eq) 28, 3) := by decide +kernel
theorem d33 : decode yB 33 = .ok (.aload_n 1, 1) := by decide +kernel
theorem d34 : decode yB 34 = .ok (.iload_n 2, 1) := by decide +kernel
theorem d35 : decode yB 35 = .ok (.iload_n 3, 1) := by decide +kernel
theorem d36 : decode yB 36 = .ok (.invokestatic 177, 3) := by decide +kernel
theorem d39 : decode yB 39 = .ok (.astore 5, 2) := by decide +kernel
theorem d41 : decode yB 41 = .ok (.aload_n 0, 1) := by decide +kernel
theorem d42 : decode yB 42 = .ok (.aload 5, 2) := by decide +kernel
theorem d44 : decode yB 44 = .ok (.iload_n 3, 1) := by decide +kernel
theorem d45 : decode yB 45 = .ok (.invokestatic 47, 3) := by decide +kernel
theorem d48 : decode yB 48 = .ok (.putfield 15, 3) := by decide +kernel
theorem d51 : decode yB 51 = .ok (.aload_n 0, 1) := by decide +kernel
theorem d52 : decode yB 52 = .ok (.aload 5, 2) := by decide +kernel
theorem d54 : decode yB 54 = .ok (.putfield 9, 3) := by decide +kernel
theorem d57 : decode yB 57 = .ok (.return_, 1) := by decide +kernel
def site : List Cond := [.fieldLink "java/lang/String" 38 "java/lang/String" "COMPACT_STRINGS" "Z", Cmp3.tab, CodL.tab, .laysFinal "java/lang/String" "java/lang/String" "value" "[B", .fieldLink "java/lang/String" 9 "java/lang/String" "value" "[B", .laysFinal "java/lang/String" "java/lang/String" "coder" "B", .fieldLink "java/lang/String" 15 "java/lang/String" "coder" "B"] ++ objW "java/lang/String" 1 ++ staticW "java/lang/String" 177 Cmp3.yN ++ staticW "java/lang/String" 47 CodL.yN
def tab : Cond := tabOf yN yB 6 none site
def P (a : Addr) (D : Cell) (fV fC : Field) (b : Addr) (A : Cell) (z : Int32) (o len : Nat) (args : Array Value) (s : State) : Prop := args = #[.ref a, .ref b, .int (Int32.ofNat o), .int (Int32.ofNat len), .null] ∧ Blank "java/lang/String" a D s ∧ Found "java/lang/String" "value" "[B" fV s ∧ Found "java/lang/String" "coder" "B" fC s ∧ Ch b A s ∧ StaticIs s "java/lang/String" "COMPACT_STRINGS" "Z" (.int z) ∧ ¬ z = 0 ∧ 0 < len ∧ o + len ≤ A.slots.size ∧ len ≤ 536870912 ∧ ∀ i, i < len → ¬ 255 < cv A (o + i)
def E (a : Addr) (D : Cell) (fV fC : Field) (A : Cell) (o len : Nat) (r : Option Value) (s u : State) : Prop := Got a D fV fC A o len r s u
/-- len > 0, no char of the range above 255: a Latin-1 String of their low bytes -/
theorem law (l : Launch) (a : Addr) (D : Cell) (fV fC : Field) (b : Addr) (A : Cell) (z : Int32) (o len : Nat) : Law l yN 5 4 2 35 yB 6 none site (P a D fV fC b A z o len) (E a D fV fC A o len) [⟨a, fC.slot⟩, ⟨a, fV.slot⟩] 1 len := by
  refine Law.of_walk (plainFor_of_name (by decide +kernel)) (by decide +kernel) (by decide +kernel) (by decide) (fun _ _ h => by rw [h.1]; rfl) (fun _ U U' hal hh h => ⟨h.1, h.2.1.mv hal hh, h.2.2.1.al hal, h.2.2.2.1.al hal, h.2.2.2.2.1.mv hal hh, h.2.2.2.2.2.1.there hal hh, h.2.2.2.2.2.2⟩) (fun r U U' V V' h1 hal h2 h => Got.mv r U U' V V' h1 hal h2 h) ?_
  intro p e s m args below meth c s₁ X0 hexec hbytes hml hret hlk hnm hown hh0 W hP
  obtain ⟨rfl, hB, f1, f2, hA, s1, hz, l0, l1, l2, hp⟩ := hP
  have a31 := hA.1.2.2.2
  have c1 : Steps p.tables e below (s₁.setTop (entryFrame m #[.ref a, .ref b, .int (Int32.ofNat o), .int (Int32.ofNat len), .null] 6)) (s₁.setTop (mkF m 0 #[.val (.ref a), .val (.ref b), .val (.int (Int32.ofNat o)), .val (.int (Int32.ofNat len)), .val .null, .unset] [])) := entry rfl
  have c2 : Steps p.tables e below (s₁.setTop (entryFrame m #[.ref a, .ref b, .int (Int32.ofNat o), .int (Int32.ofNat len), .null] 6)) (s₁.setTop (mkF m 1 #[.val (.ref a), .val (.ref b), .val (.int (Int32.ofNat o)), .val (.int (Int32.ofNat len)), .val .null, .unset] [.ref a])) := c1.trans (by
    refine XS.aloadN X0.here hexec rfl (hb hbytes d0) rfl rfl ?_
    exact Steps.refl _)
  obtain ⟨T3, X3, q3, st3⟩ := X0.oinit hexec hown (wks W (objW "java/lang/String" 1)) (g := (mkF m 1 #[.val (.ref a), .val (.ref b), .val (.int (Int32.ofNat o)), .val (.int (Int32.ofNat len)), .val .null, .unset] [.ref a])) rfl (by rw [hml]; rfl) (rest := []) rfl (hb hbytes d1) (W := 0) (by show 2 * 0 + 0 ≤ _; decide) (Nat.le_of_ble_eq_true rfl) (Nat.le_of_ble_eq_true rfl)
  have hh3 := q3.trans hh0
  have c4 : Steps p.tables e below (s₁.setTop (entryFrame m #[.ref a, .ref b, .int (Int32.ofNat o), .int (Int32.ofNat len), .null] 6)) (T3.setTop (mkF m 27 #[.val (.ref a), .val (.ref b), .val (.int (Int32.ofNat o)), .val (.int (Int32.ofNat len)), .val .null, .unset] [])) := (c2.trans (st3 _ (Steps.refl _))).trans (by
    refine XS.iloadN X3.here hexec rfl (hb hbytes d4) rfl ?_
    refine XS.ifYes X3.here hexec rfl (pc0 := 5) rfl (hb hbytes d5) rfl (i0_ne_t (nz32 (by omega) l0)) (by decide) rfl ?_
    exact Steps.refl _)
  obtain ⟨T5, X5, q5, st5⟩ := X3.sget hexec hown (wk W (.fieldLink "java/lang/String" 38 "java/lang/String" "COMPACT_STRINGS" "Z")) s1 (fun _ _ h => by rw [hh3]; exact h) (g := (mkF m 27 #[.val (.ref a), .val (.ref b), .val (.int (Int32.ofNat o)), .val (.int (Int32.ofNat len)), .val .null, .unset] [])) rfl (hb hbytes d27)
  have hh5 := q5.trans hh3
  have c6 : Steps p.tables e below (s₁.setTop (entryFrame m #[.ref a, .ref b, .int (Int32.ofNat o), .int (Int32.ofNat len), .null] 6)) (T5.setTop (mkF m 30 #[.val (.ref a), .val (.ref b), .val (.int (Int32.ofNat o)), .val (.int (Int32.ofNat len)), .val .null, .unset] [.int z])) := c4.trans (st5 _ (Steps.refl _))
  have c7 : Steps p.tables e below (s₁.setTop (entryFrame m #[.ref a, .ref b, .int (Int32.ofNat o), .int (Int32.ofNat len), .null] 6)) (T5.setTop (mkF m 36 #[.val (.ref a), .val (.ref b), .val (.int (Int32.ofNat o)), .val (.int (Int32.ofNat len)), .val .null, .unset] [.int (Int32.ofNat len), .int (Int32.ofNat o), .ref b])) := c6.trans (by
    refine XS.ifNo X5.here hexec rfl (hb hbytes d30) rfl (i0_eq_f hz) ?_
    refine XS.aloadN X5.here hexec rfl (hb hbytes d33) rfl rfl ?_
    refine XS.iloadN X5.here hexec rfl (hb hbytes d34) rfl ?_
    refine XS.iloadN X5.here hexec rfl (hb hbytes d35) rfl ?_
    exact Steps.refl _)
  obtain ⟨v8, T8, X8, E8, g8⟩ := X5.callS hexec (Cmp3.law l b A o len) hown (wks W (staticW "java/lang/String" 177 Cmp3.yN)) (wk W Cmp3.tab) (W := 0) (Nat.le_of_ble_eq_true rfl) (Nat.le_of_ble_eq_true rfl) (Nat.le_refl _) (by show 0 + len ≤ len; omega) (g := (mkF m 36 #[.val (.ref a), .val (.ref b), .val (.int (Int32.ofNat o)), .val (.int (Int32.ofNat len)), .val .null, .unset] [.int (Int32.ofNat len), .int (Int32.ofNat o), .ref b])) rfl (by rw [hml]; rfl) c7 (argsL := [.ref b, .int (Int32.ofNat o), .int (Int32.ofNat len)]) (rest := []) rfl rfl (by show 2 * 0 + 0 ≤ _; decide) (hb hbytes d36) (⟨rfl, hA.mv X5.warmed.alike hh5, l1, l2, hp⟩)
  obtain ⟨e8, z8⟩ := E8
  obtain ⟨rfl, N, n1, n2, n3, n4, n5, n6⟩ := NewArr.mv _ T5 s _ _ hh5.symm (Vm.Alike.refl _) rfl e8
  rw [hh5] at z8
  have hB1 := hB.keep X8.warmed.alike (n6 _ _ hB.1)
  have hne : s.heap.size ≠ a := (Nat.ne_of_lt (Array.getElem?_eq_some_iff.mp hB.1).1).symm
  have c9 : Steps p.tables e below (s₁.setTop (entryFrame m #[.ref a, .ref b, .int (Int32.ofNat o), .int (Int32.ofNat len), .null] 6)) (T8.setTop (mkF m 39 #[.val (.ref a), .val (.ref b), .val (.int (Int32.ofNat o)), .val (.int (Int32.ofNat len)), .val .null, .unset] [.ref s.heap.size])) := g8
  have c10 : Steps p.tables e below (s₁.setTop (entryFrame m #[.ref a, .ref b, .int (Int32.ofNat o), .int (Int32.ofNat len), .null] 6)) (T8.setTop (mkF m 45 #[.val (.ref a), .val (.ref b), .val (.int (Int32.ofNat o)), .val (.int (Int32.ofNat len)), .val .null, .val (.ref s.heap.size)] [.int (Int32.ofNat N.slots.size), .ref s.heap.size, .ref a])) := by
    have hc : Steps p.tables e below (s₁.setTop (entryFrame m #[.ref a, .ref b, .int (Int32.ofNat o), .int (Int32.ofNat len), .null] 6)) (T8.setTop (mkF m 45 #[.val (.ref a), .val (.ref b), .val (.int (Int32.ofNat o)), .val (.int (Int32.ofNat len)), .val .null, .val (.ref s.heap.size)] [.int (Int32.ofNat len), .ref s.heap.size, .ref a])) := c9.trans (by
      refine XS.astore X8.here hexec rfl (hb hbytes d39) rfl rfl rfl ?_
      refine XS.aloadN X8.here hexec rfl (hb hbytes d41) rfl rfl ?_
      refine XS.aload X8.here hexec rfl (hb hbytes d42) rfl rfl ?_
      refine XS.iloadN X8.here hexec rfl (hb hbytes d44) rfl ?_
      exact Steps.refl _)
    rw [n4]; exact hc
  obtain ⟨v11, T11, X11, E11, g11⟩ := X8.callS hexec (CodL.law l s.heap.size N) hown (wks W (staticW "java/lang/String" 47 CodL.yN)) (wk W CodL.tab) (W := 1) (Nat.le_of_ble_eq_true rfl) (Nat.le_of_ble_eq_true rfl) (Nat.le_refl _) (by show 0 + len + 0 ≤ len; omega) (g := (mkF m 45 #[.val (.ref a), .val (.ref b), .val (.int (Int32.ofNat o)), .val (.int (Int32.ofNat len)), .val .null, .val (.ref s.heap.size)] [.int (Int32.ofNat N.slots.size), .ref s.heap.size, .ref a])) rfl (by rw [hml]; rfl) c10 (argsL := [.ref s.heap.size, .int (Int32.ofNat N.slots.size)]) (rest := [.ref a]) rfl rfl (by show 2 * 0 + (1 + 0) ≤ _; decide) (hb hbytes d45) (⟨rfl, n1⟩)
  obtain ⟨rfl, q11⟩ := E11
  have hB11 := hB1.mv (X8.warmed.alike.symm.trans X11.warmed.alike) q11
  have c12 : Steps p.tables e below (s₁.setTop (entryFrame m #[.ref a, .ref b, .int (Int32.ofNat o), .int (Int32.ofNat len), .null] 6)) (T11.setTop (mkF m 48 #[.val (.ref a), .val (.ref b), .val (.int (Int32.ofNat o)), .val (.int (Int32.ofNat len)), .val .null, .val (.ref s.heap.size)] [.int 0, .ref a])) := g11
  obtain ⟨T13, X13, p13, bl13, sl13, st13⟩ := X11.finit hexec hown (wk W (.fieldLink "java/lang/String" 15 "java/lang/String" "coder" "B")) (Or.inr ⟨_, (wk W (.laysFinal "java/lang/String" "java/lang/String" "coder" "B"))⟩) (Or.inl ⟨rfl, hnm⟩) f2 (Or.inl rfl) hB11 (t := .byte) (by decide +kernel) rfl (g := (mkF m 48 #[.val (.ref a), .val (.ref b), .val (.int (Int32.ofNat o)), .val (.int (Int32.ofNat len)), .val .null, .val (.ref s.heap.size)] [.int 0, .ref a])) rfl (rest := []) rfl (hb hbytes d48)
  have c14 : Steps p.tables e below (s₁.setTop (entryFrame m #[.ref a, .ref b, .int (Int32.ofNat o), .int (Int32.ofNat len), .null] 6)) (T13.setTop (mkF m 54 #[.val (.ref a), .val (.ref b), .val (.int (Int32.ofNat o)), .val (.int (Int32.ofNat len)), .val .null, .val (.ref s.heap.size)] [.ref s.heap.size, .ref a])) := (c12.trans (st13 _ (Steps.refl _))).trans (by
    refine XS.aloadN X13.here hexec rfl (hb hbytes d51) rfl rfl ?_
    refine XS.aload X13.here hexec rfl (hb hbytes d52) rfl rfl ?_
    exact Steps.refl _)
  obtain ⟨T15, X15, p15, bl15, sl15, st15⟩ := X13.finit hexec hown (wk W (.fieldLink "java/lang/String" 9 "java/lang/String" "value" "[B")) (Or.inr ⟨_, (wk W (.laysFinal "java/lang/String" "java/lang/String" "value" "[B"))⟩) (Or.inl ⟨rfl, hnm⟩) f1 (Or.inl rfl) bl13 (t := (.array .byte)) (by decide +kernel) rfl (g := (mkF m 54 #[.val (.ref a), .val (.ref b), .val (.int (Int32.ofNat o)), .val (.int (Int32.ofNat len)), .val .null, .val (.ref s.heap.size)] [.ref s.heap.size, .ref a])) rfl (rest := []) rfl (hb hbytes d54)
  have c16 : Steps p.tables e below (s₁.setTop (entryFrame m #[.ref a, .ref b, .int (Int32.ofNat o), .int (Int32.ofNat len), .null] 6)) (T15.setTop (mkF m 57 #[.val (.ref a), .val (.ref b), .val (.int (Int32.ofNat o)), .val (.int (Int32.ofNat len)), .val .null, .val (.ref s.heap.size)] [])) := c14.trans (st15 _ (Steps.refl _))
  have ap := apart (Or.inr ⟨_, (wk W (.laysFinal "java/lang/String" "java/lang/String" "value" "[B"))⟩) (Or.inr ⟨_, (wk W (.laysFinal "java/lang/String" "java/lang/String" "coder" "B"))⟩) f1 f2 (t₁ := .array .byte) (t₂ := .byte) (by decide +kernel) (by decide +kernel) (by decide)
  have al := X8.warmed.alike.symm.trans X15.warmed.alike
  have n7 : T11.heap[s.heap.size]? = some N := by rw [q11]; exact n1.1
  exact ⟨T15, none, _, _, _, X15, by simp, rfl, by omega, (fun _ => rfl), ⟨rfl, _, N, bl15, ((Same.refl D _).set _ (by simp)).set _ (by simp), sl15, (Cell.slots_setSlot_ne _ ap).trans sl13, n1.keep al (p15.other hne (p13.other hne n7)), n2, by rw [al.findClass]; exact n3, n4, n5, fun y c h1 h2 => p15.other h1 (p13.other h1 (by rw [q11]; exact n6 y c h2)), by rw [p15.2.2, p13.2.2, q11]; exact z8⟩, fun fs hl => c16.trans (X15.returnOut hexec hret (hb hbytes d57) hl)⟩
end New4
namespace New1
def yN : MethodName := ⟨"java/lang/String", "<init>", "([C)V"⟩
abbrev yB : ByteArray := jdk_42_method_3_code
theorem d0 : decode yB 0 = .ok (.aload_n 0, 1) := by decide +kernel
theorem d1 : decode yB 1 = .ok (.aload_n 1, 1) := by decide +kernel
theorem d2 : decode yB 2 = .ok (.iconst 0, 1) := by decide +kernel
theorem d3 : decode yB 3 = .ok (.aload_n 1, 1) := by decide +kernel
theorem d4 : decode yB 4 = .ok (.arraylength, 1) := by decide +kernel
theorem d5 : decode yB 5 = .ok (.aconst_null, 1) := by decide +kernel
theorem d6 : decode yB 6 = .ok (.invokespecial 27, 3) := by decide +kernel
theorem d9 : decode yB 9 = .ok (.return_, 1) := by decide +kernel
def site : List Cond := [New4.tab] ++ initW "java/lang/String" 27 New4.yN
def tab : Cond := tabOf yN yB 2 none site
def P (a : Addr) (D : Cell) (fV fC : Field) (b : Addr) (A : Cell) (z : Int32) (args : Array Value) (s : State) : Prop := args = #[.ref a, .ref b] ∧ Blank "java/lang/String" a D s ∧ Found "java/lang/String" "value" "[B" fV s ∧ Found "java/lang/String" "coder" "B" fC s ∧ Ch b A s ∧ StaticIs s "java/lang/String" "COMPACT_STRINGS" "Z" (.int z) ∧ ¬ z = 0 ∧ 0 < A.slots.size ∧ A.slots.size ≤ 536870912 ∧ ∀ i, i < A.slots.size → ¬ 255 < cv A i
def E (a : Addr) (D : Cell) (fV fC : Field) (A : Cell) (r : Option Value) (s u : State) : Prop := Got a D fV fC A 0 A.slots.size r s u
/-- new String(chars), not empty, no char above 255: a Latin-1 String of their low bytes -/
theorem law (l : Launch) (a : Addr) (D : Cell) (fV fC : Field) (b : Addr) (A : Cell) (z : Int32) : Law l yN 2 1 3 52 yB 2 none site (P a D fV fC b A z) (E a D fV fC A) [⟨a, fC.slot⟩, ⟨a, fV.slot⟩] 1 A.slots.size := by
  refine Law.of_walk (plainFor_of_name (by decide +kernel)) (by decide +kernel) (by decide +kernel) (by decide) (fun _ _ h => by rw [h.1]; rfl) (fun _ U U' hal hh h => ⟨h.1, h.2.1.mv hal hh, h.2.2.1.al hal, h.2.2.2.1.al hal, h.2.2.2.2.1.mv hal hh, h.2.2.2.2.2.1.there hal hh, h.2.2.2.2.2.2⟩) (fun r U U' V V' h1 hal h2 h => Got.mv r U U' V V' h1 hal h2 h) ?_
  intro p e s m args below meth c s₁ X0 hexec hbytes hml hret hlk hnm hown hh0 W hP
  obtain ⟨rfl, hB, f1, f2, hA, s1, hz, l0, l2, hp⟩ := hP
  have c1 : Steps p.tables e below (s₁.setTop (entryFrame m #[.ref a, .ref b] 2)) (s₁.setTop (mkF m 0 #[.val (.ref a), .val (.ref b)] [])) := entry rfl
  have c2 : Steps p.tables e below (s₁.setTop (entryFrame m #[.ref a, .ref b] 2)) (s₁.setTop (mkF m 6 #[.val (.ref a), .val (.ref b)] [.null, .int (Int32.ofNat A.slots.size), .int 0, .ref b, .ref a])) := c1.trans (by
    refine XS.aloadN X0.here hexec rfl (hb hbytes d0) rfl rfl ?_
    refine XS.aloadN X0.here hexec rfl (hb hbytes d1) rfl rfl ?_
    refine iconstV X0.here hexec rfl 0 (hb hbytes d2) (by decide) ?_
    refine XS.aloadN X0.here hexec rfl (hb hbytes d3) rfl rfl ?_
    refine X0.alen hexec (hA.1.mv X0.warmed.alike hh0) rfl rfl (hb hbytes d4) ?_
    refine XS.aconstNull X0.here hexec rfl (hb hbytes d5) ?_
    exact Steps.refl _)
  obtain ⟨v3, T3, X3, E3, g3⟩ := X0.callN hexec (New4.law l a D fV fC b A z 0 A.slots.size) rfl hown (wks W (initW "java/lang/String" 27 New4.yN)) (W New4.tab (by simp only [site, List.mem_cons, List.mem_append, true_or, or_true])) (W := 0) (Nat.le_of_ble_eq_true rfl) (Nat.le_of_ble_eq_true rfl) (Nat.le_refl _) (by show 0 + A.slots.size ≤ A.slots.size; omega) (g := (mkF m 6 #[.val (.ref a), .val (.ref b)] [.null, .int (Int32.ofNat A.slots.size), .int (Int32.ofNat 0), .ref b, .ref a])) rfl (by rw [hml]; rfl) c2 (argsL := [.ref b, .int (Int32.ofNat 0), .int (Int32.ofNat A.slots.size), .null]) (rest := []) rfl rfl (by show 2 * 0 + 0 ≤ _; decide) (hb hbytes d6) (⟨rfl, hB.mv X0.warmed.alike hh0, f1.al X0.warmed.alike, f2.al X0.warmed.alike, hA.mv X0.warmed.alike hh0, s1.there X0.warmed.alike hh0, hz, l0, by omega, l2, fun i hi => by rw [Nat.zero_add]; exact hp i hi⟩)
  have e0 := Got.mv _ s₁ s _ _ hh0.symm (Vm.Alike.refl _) rfl E3
  obtain rfl := e0.1
  have c4 : Steps p.tables e below (s₁.setTop (entryFrame m #[.ref a, .ref b] 2)) (T3.setTop (mkF m 9 #[.val (.ref a), .val (.ref b)] [])) := g3
  exact ⟨T3, none, _, _, _, X3, by simp, rfl, by omega, (fun _ => rfl), e0, fun fs hl => c4.trans (X3.returnOut hexec hret (hb hbytes d9) hl)⟩
theorem pays {l : Launch} {R : Room} {p : Program} {e : Env} {below : List Frame} {s : State} {sargs : Array Value} {len W : Nat} (a : Addr) (D : Cell) (fV fC : Field) (b : Addr) (A : Cell) (z : Int32) (htab : tab.before sargs s = true) (hfr : 4 ≤ R.frames) (hlo : W + 65 ≤ R.locals) :
    Back l R p e below s sargs yN len W (fun A₁ a₁ => A₁.cells + 1 ≤ R.cells ∧ A₁.slots + A.slots.size ≤ R.slots ∧ P a D fV fC b A z a₁ A₁.U) (fun A₁ _ v₁ B₁ => E a D fV fC A v₁ A₁.U B₁.U ∧ B₁.locs = A₁.locs ++ [⟨a, fC.slot⟩, ⟨a, fV.slot⟩] ∧ B₁.cells = A₁.cells + 1 ∧ B₁.slots = A₁.slots + A.slots.size) :=
  (law l a D fV fC b A z).pays htab hfr (by omega)
end New1
/-- the byte, read back as charAt reads it, is the char -/
theorem lo8_mask {x : Int32} (h0 : ¬ x < 0) (h1 : ¬ 255 < x) : lo8 x &&& 255 = x := by
  have t : ∀ k : Fin 256, lo8 (Int32.ofNat k.val) &&& 255 = Int32.ofNat k.val := by decide +kernel
  rw [Int32.lt_iff_toInt_lt] at h0 h1
  have e0 : (0 : Int32).toInt = 0 := rfl
  have e1 : (255 : Int32).toInt = 255 := rfl
  obtain ⟨k, hk⟩ : ∃ k : Nat, x.toInt = k := ⟨x.toInt.toNat, by omega⟩
  have hx : x = Int32.ofNat k := Int32.toInt_inj.mp (by rw [hk, Int32.toInt_ofNat_small (by omega)])
  rw [hx]
  exact t ⟨k, by omega⟩
end StrChars
namespace StrChars.Road
open Jvm Sem ClassFile Op Lib Jvm.Stand Jvm.Free Jvm.Free.XT
open Jvm.Lib.Cold (StaticIs)
abbrev ST : String := "java/lang/String"
/-- every table word that New1's law asks, flat -/
abbrev words : List Jvm.Cond := [.code New1.yN New1.yB 2 none, .initialized ST, .methodLink ST 27 New4.yN, .instanceMethod New4.yN,
  .code New4.yN New4.yB 6 none, .fieldLink ST 38 ST "COMPACT_STRINGS" "Z", .laysFinal ST ST "value" "[B", .fieldLink ST 9 ST "value" "[B", .laysFinal ST ST "coder" "B", .fieldLink ST 15 ST "coder" "B",
  .methodLink ST 1 Lib.objectInit, .instanceMethod Lib.objectInit, .code Lib.objectInit ⟨#[0xb1]⟩ 1 none, .methodLink ST 177 Cmp3.yN, .static Cmp3.yN, .methodLink ST 47 CodL.yN, .static CodL.yN,
  .code Cmp3.yN Cmp3.yB 6 (some (.array .byte)), .initialized U16, .arrayClass .byte, .methodLink U16 115 Cmp5.yN, .static Cmp5.yN, .code Cmp5.yN Cmp5.yB 7 (some .int), .code CodL.yN CodL.yB 2 (some .byte)]
theorem tab_of {a : Array Value} {s : State} (h : ∀ w ∈ words, w.before a s = true) : New1.tab.before a s = true := by
  have h5 : Cmp5.tab.before a s = true := unparts (wk h (.code Cmp5.yN Cmp5.yB 7 (some .int))) (wks h (.initialized Cmp5.yN.cls :: Cmp5.site))
  have hc : CodL.tab.before a s = true := unparts (wk h (.code CodL.yN CodL.yB 2 (some .byte))) (wks h (.initialized CodL.yN.cls :: CodL.site))
  have q5 : ∀ w ∈ Cmp5.tab :: words, w.before a s = true := fun w hw => (List.mem_cons.mp hw).elim (fun e => e ▸ h5) (h w)
  have h3 : Cmp3.tab.before a s = true := unparts (wk q5 (.code Cmp3.yN Cmp3.yB 6 (some (.array .byte)))) (wks q5 (.initialized Cmp3.yN.cls :: Cmp3.site))
  have q3 : ∀ w ∈ Cmp3.tab :: CodL.tab :: words, w.before a s = true := fun w hw => (List.mem_cons.mp hw).elim (fun e => e ▸ h3) fun hw => (List.mem_cons.mp hw).elim (fun e => e ▸ hc) (h w)
  have h4 : New4.tab.before a s = true := unparts (wk q3 (.code New4.yN New4.yB 6 none)) (wks q3 (.initialized New4.yN.cls :: New4.site))
  have q4 : ∀ w ∈ New4.tab :: words, w.before a s = true := fun w hw => (List.mem_cons.mp hw).elim (fun e => e ▸ h4) (h w)
  exact unparts (wk q4 (.code New1.yN New1.yB 2 none)) (wks q4 (.initialized New1.yN.cls :: New1.site))
/-- the words ride from the start Z to the walk's own state -/
theorem moved {Z s : State} {a0 args : Array Value} (hZ : Z.Warmed39 s.vm) (hw : ∀ d ∈ words, d.before a0 Z = true) : ∀ d ∈ words, d.before args s = true := fun d hd => by
  have q := hw d hd
  have t : ∀ d ∈ words, d = .arrayClass .byte ∨ (d.onTables && d.keepsFace) = true := by decide +kernel
  rcases t d hd with rfl | t
  · exact RoadKit.mvA hZ q
  · exact RoadKit.mv hZ q t
/-- WHAT COMES BACK, over the tables of the start Z: h the heap at the call, h' behind it -/
def Q (Z : State) (x : Addr) (A : Cell) (h : Heap) (v : Option Value) (h' : Heap) (L : List Loc) : Prop := v = none ∧ (∀ y ∈ L, y.base = x) ∧ RoadKit.Keep h h' [x] ∧ h'.size = h.size + 1 ∧ RoadKit.Exa Z h' x ST ∧ RoadKit.Fld Z h' x ST "value" "[B" (.ref h.size) ∧ RoadKit.Fld Z h' x ST "coder" "B" (.int 0) ∧
  (∃ V : Cell, RoadKit.Arr Z h' h.size V .byte ∧ V.vm = .none ∧ Z.vm.findClass "[B" = some V.cls ∧ V.slots.size = A.slots.size ∧ ∀ j, j < A.slots.size → V.slots[j]? = some (.int (lo8 (cv A j)))) ∧
  ∀ (O n d : String) (w : Value), RoadKit.Fld Z h x O n d w → RoadKit.slotOf Z O n d ≠ RoadKit.slotOf Z ST "value" "[B" → RoadKit.slotOf Z O n d ≠ RoadKit.slotOf Z ST "coder" "B" → RoadKit.Fld Z h' x O n d w
/-- **new String(chars) AT A CALL, IN THE ROAD'S FORM**: for specialBack behind newO: x the fresh String, b the char[] with the cell A -/
theorem back {p : Program} {l : Launch} {e : Env} {R : Room} {s : State} {args : Array Value} {below : List Frame} {len W : Nat} {Z : State} {a0 : Array Value} {h : Heap} (hZ : Z.Warmed39 s.vm) (hw : ∀ d ∈ words, d.before a0 Z = true) {kI : Nat} (wi : (Jvm.Cond.instantiable ST kI).before a0 Z = true)
    {x b : Addr} {A : Cell} {z : Int32} {v0 c0 : Value} (E : RoadKit.Exa Z h x ST) (V : RoadKit.Fld Z h x ST "value" "[B" v0) (C : RoadKit.Fld Z h x ST "coder" "B" c0) (K : RoadKit.Arr Z h b A .char) (hty : Typed .char A) (S : RoadKit.Sta Z h ST "COMPACT_STRINGS" "Z" (.int z)) (hz : ¬ z = 0)
    (l0 : 0 < A.slots.size) (l2 : A.slots.size ≤ 536870912) (hp : ∀ i, i < A.slots.size → ¬ 255 < cv A i) (hfr : 4 ≤ R.frames) (hlo : W + 65 ≤ R.locals) :
    Back l R p e below s args New1.yN len W (fun P a => a = #[.ref x, .ref b] ∧ P.U.heap = h ∧ P.cells + 1 ≤ R.cells ∧ P.slots + A.slots.size ≤ R.slots)
      (fun P _ v B => ∃ L, Q Z x A h v B.U.heap L ∧ B.locs = P.locs ++ L ∧ B.cells = P.cells + 1 ∧ B.slots = P.slots + A.slots.size) := by
  intro m meth c P g ig mk a X hg hsize hdg hW hn hp'
  obtain ⟨rfl, rfl, r1, r2⟩ := hp'
  have al : Z.vm.Alike P.U.vm := hZ.alike.trans X.warmed.alike
  obtain ⟨D, cfV, kV, iV, fV, hD, gV, stV, knV, obV, asV, slV⟩ := id V
  obtain ⟨D', cfC, kC, iC, fC, hD', gC, stC, -, -, asC, slC⟩ := id C
  cases hD.symm.trans hD'
  obtain ⟨D2, kD, e1, e2, e3, e4, e5⟩ := id E
  cases hD.symm.trans e1
  obtain ⟨c2, k2, i1, i2, i3, -⟩ := Cond.instantiable_spec wi
  cases e2.symm.trans i1
  cases e3.symm.trans i2
  obtain ⟨kU, u1, u2⟩ := al.2.2 _ _ e3
  have hB : Blank ST x D P.U := ⟨hD, ⟨knV, fun q hq => by rw [hq] at obV; cases obV⟩, by rw [al.findClass]; exact e2, kU, u1, by rw [u2]; exact i3, by rw [u2]; exact e5 i3⟩
  have F1 : Found ST "value" "[B" fV P.U := ⟨SBG.found_only al ⟨cfV, kV, iV, gV⟩, stV⟩
  have F2 : Found ST "coder" "B" fC P.U := ⟨SBG.found_only al ⟨cfC, kC, iC, gC⟩, stC⟩
  have hA : Ch b A P.U := ⟨⟨K.1, State.isArrayOf_alike al K.2.1, K.2.2, by omega⟩, hty⟩
  have hS : StaticIs P.U ST "COMPACT_STRINGS" "Z" (.int z) := by
    obtain ⟨cfS, iS, kS, fS, st, cS, t1, t2, t3, t4, t5, t6, t7⟩ := S
    exact StaticIs.there (s := { Z with heap := P.U.heap }) ⟨cfS, iS, kS, fS, st, cS, t1, t2, t3, t4, t5, (fun q => by rw [q] at t6; cases t6), t7⟩ al rfl
  obtain ⟨v, B, X', ⟨⟨hv, E', V', q1, q2, q3, q4, q5, q6, q7, q8, q9, q10, q11⟩, hl, hc, hs⟩, st⟩ := New1.pays x D fV fC b A z (tab_of (moved hZ hw)) hfr hlo m meth c P g ig mk _ X hg hsize hdg hW hn ⟨r1, r2, rfl, hB, F1, F2, hA, hS, hz, l0, l2, hp⟩
  have al' : Z.vm.Alike B.U.vm := hZ.alike.trans X'.warmed.alike
  have hsz : E'.slots.size = D.slots.size := by
    obtain ⟨-, -, -, kB, w1, w2, w3⟩ := q1
    obtain ⟨kB', y1, y2⟩ := al'.2.2 _ _ e3
    rw [q2.2.1] at w1
    cases w1.symm.trans y1
    rw [w3, e5 i3, y2]
  refine ⟨v, B, X', ⟨_, ⟨hv, ?_, ⟨by omega, fun y cy hy hn' => q10 y cy (by simpa using hn') hy, fun y cy hy => ?_⟩, q11, ⟨E', _, q1.1, by rw [q2.2.1]; exact e2, by rw [q2.2.1]; exact e3, by rw [q2.1]; exact obV, fun _ => by rw [hsz]; exact e5 i3⟩,
    ⟨E', cfV, kV, iV, fV, q1.1, gV, stV, by rw [q2.1]; exact knV, by rw [q2.1]; exact obV, by rw [q2.2.1]; exact asV, q3⟩, ⟨E', cfC, kC, iC, fC, q1.1, gC, stC, by rw [q2.1]; exact knV, by rw [q2.1]; exact obV, by rw [q2.2.1]; exact asC, q4⟩,
    ⟨V', ⟨q5.1, State.isArrayOf_alike al'.symm q5.2.1, q5.2.2.1⟩, q6, by rw [← al'.findClass]; exact q7, q8, fun j hj => by have := q9 j hj; rwa [Nat.zero_add] at this⟩, fun O n d w F n1 n2 => ?_⟩, hl, hc, hs⟩, st⟩
  · intro y hy
    simp only [List.mem_cons, List.not_mem_nil, or_false] at hy
    rcases hy with rfl | rfl <;> rfl
  · by_cases q : y = x
    · subst q
      cases hD.symm.trans hy
      exact ⟨E', q1.1, q2.2.1, q2.1, hsz⟩
    · exact ⟨cy, q10 y cy q hy, rfl, rfl, rfl⟩
  · obtain ⟨D3, cf, k, i, f, g1, g2, g3, g4, g5, g6, g7⟩ := F
    cases hD.symm.trans g1
    simp only [RoadKit.slotOf, g2, gV, gC, Option.map_some, Option.getD_some] at n1 n2
    exact ⟨E', cf, k, i, f, q1.1, g2, g3, by rw [q2.1]; exact g4, by rw [q2.1]; exact g5, by rw [q2.2.1]; exact g6, by rw [q2.2.2 f.slot (by simp [n1, n2])]; exact g7⟩
end StrChars.Road
namespace StrChars.Road
open Jvm Sem ClassFile Op Lib Jvm.Stand Jvm.Free Jvm.Free.XT
/-- WHAT COMES BACK, the byte[] as a list of values -/
def QA (Z : State) (x : Addr) (zn : Int32) (cs : List Int32) (h : Heap) (v : Option Value) (h' : Heap) (L : List Loc) : Prop := v = none ∧ (∀ y ∈ L, y.base = x) ∧ RoadKit.Keep h h' [x] ∧ h'.size = h.size + 1 ∧ RoadKit.Exa Z h' x ST ∧ RoadKit.Fld Z h' x ST "value" "[B" (.ref h.size) ∧ RoadKit.Fld Z h' x ST "coder" "B" (.int 0) ∧
  (∃ kb, Z.vm.findClass "[B" = some kb ∧ RoadKit.Arv Z h' h.size kb .byte zn (cs.map fun c => .int (lo8 c)) (.int 0)) ∧
  ∀ (O n d : String) (w : Value), RoadKit.Fld Z h x O n d w → RoadKit.slotOf Z O n d ≠ RoadKit.slotOf Z ST "value" "[B" → RoadKit.slotOf Z O n d ≠ RoadKit.slotOf Z ST "coder" "B" → RoadKit.Fld Z h' x O n d w
/-- **new String(chars) AT A CALL, THE ARRAYS AS LISTS**: the char[] at b holds cs, not empty, no char above 255 -/
theorem backArv {p : Program} {l : Launch} {e : Env} {R : Room} {s : State} {args : Array Value} {below : List Frame} {len W : Nat} {Z : State} {a0 : Array Value} {h : Heap} (hZ : Z.Warmed39 s.vm) (hw : ∀ d ∈ words, d.before a0 Z = true) {kI : Nat} (wi : (Jvm.Cond.instantiable ST kI).before a0 Z = true)
    {x b : Addr} {k : ClassId} {zn z : Int32} {cs : List Int32} {dv v0 c0 : Value} (E : RoadKit.Exa Z h x ST) (V : RoadKit.Fld Z h x ST "value" "[B" v0) (C : RoadKit.Fld Z h x ST "coder" "B" c0) (K : RoadKit.Arv Z h b k .char zn (cs.map Value.int) dv) (S : RoadKit.Sta Z h ST "COMPACT_STRINGS" "Z" (.int z)) (hz : ¬ z = 0)
    (hlen : zn.toNatClampNeg = cs.length) (h0 : 0 < cs.length) (hbig : cs.length ≤ 536870912) (hall : ∀ c ∈ cs, ¬ 255 < c) (hfr : 4 ≤ R.frames) (hlo : W + 65 ≤ R.locals) :
    Back l R p e below s args New1.yN len W (fun P a => a = #[.ref x, .ref b] ∧ P.U.heap = h ∧ P.cells + 1 ≤ R.cells ∧ P.slots + cs.length ≤ R.slots)
      (fun P _ v B => ∃ L, QA Z x zn cs h v B.U.heap L ∧ B.locs = P.locs ++ L ∧ B.cells = P.cells + 1 ∧ B.slots = P.slots + cs.length) := by
  obtain ⟨A, K1, K2, K3, K4, K5, K6⟩ := K
  have e : A.slots.size = cs.length := K3.trans hlen
  have hat : ∀ (i : Nat) (hi : i < cs.length), A.slots[i]? = some (.int cs[i]) := fun i hi => by rw [K5 i (by omega)]; simp [List.getD_eq_getElem?_getD, hi]
  have hcv : ∀ (i : Nat) (hi : i < cs.length), cv A i = cs[i] := fun i hi => by unfold cv; rw [hat i hi]
  have hty : Typed .char A := fun i v hv => by
    have hi : i < A.slots.size := (Array.getElem?_eq_some_iff.mp hv).1
    have q := K5 i hi
    rw [hv] at q
    rw [Option.some.inj q]
    exact K6 i hi
  refine Back.mono (back hZ hw wi E V C K1 hty S hz (by omega) (by omega) (fun i hi => by rw [hcv i (by omega)]; exact hall _ (List.getElem_mem _)) hfr hlo) (fun P a hp => ⟨hp.1, hp.2.1, hp.2.2.1, by rw [e]; exact hp.2.2.2⟩) (fun P a v B hp hq => ?_)
  obtain ⟨L, ⟨q1, q2, q3, q4, q5, q6, q7, ⟨V', v1, v2, v3, v4, v5⟩, q9⟩, hl, hc, hs⟩ := hq
  refine ⟨L, ⟨q1, q2, q3, q4, q5, q6, q7, ⟨V'.cls, v3, V', v1, rfl, by rw [v4, e, hlen], K4, fun i hi => ?_, fun i hi => ?_⟩, q9⟩, hl, hc, by rw [hs, e]⟩
  · have hi' : i < cs.length := by omega
    rw [v5 i (by omega), hcv i hi']; simp [List.getD_eq_getElem?_getD, hi']
  · have hi' : i < cs.length := by omega
    simp only [List.getD_eq_getElem?_getD, List.getElem?_map, List.getElem?_eq_getElem hi', Option.map_some, Option.getD_some]
    exact fits_lo8 _
end StrChars.Road
namespace StrChars.Road
open Jvm Sem ClassFile Op Lib Jvm.Stand Jvm.Free Jvm.Free.XT
/-- WHAT COMES BACK, in the writer's own shape -/
def QV (Z : State) (x : Addr) (N : Int32) (bs : List Int32) (h : Heap) (n0 : Nat) (v : Option Value) (h' : Heap) (L : List Loc) : Prop := v = none ∧ RoadKit.Fr n0 L ∧ RoadKit.Keep h h' [x] ∧ RoadKit.Exa Z h' x ST ∧ RoadKit.Fld Z h' x ST "coder" "B" (.int 0) ∧
  ∃ (t : Addr) (kb : ClassId), n0 ≤ t ∧ h.size ≤ t ∧ ¬ t = x ∧ RoadKit.Fld Z h' x ST "value" "[B" (.ref t) ∧ RoadKit.Arv Z h' t kb .byte N (bs.map Value.int) (.int 0)
/-- **new String(chars) AT A CALL, FOR THE WRITER**: a char[] of n known ints, each 0 to 255 -/
theorem backV {p : Program} {l : Launch} {e : Env} {R : Room} {s : State} {args : Array Value} {below : List Frame} {len W : Nat} {Z : State} {a0 : Array Value} {h : Heap} (hZ : Z.Warmed39 s.vm) (hw : ∀ d ∈ words, d.before a0 Z = true) {kI : Nat} (wi : (Jvm.Cond.instantiable ST kI).before a0 Z = true)
    {x b : Addr} {kC : ClassId} {cs bs : List Int32} {d v0 c0 : Value} {z N : Int32} {n n0 : Nat} (hx0 : n0 ≤ x) (hh0 : n0 ≤ h.size) (E : RoadKit.Exa Z h x ST) (V : RoadKit.Fld Z h x ST "value" "[B" v0) (C : RoadKit.Fld Z h x ST "coder" "B" c0) (K : RoadKit.Arv Z h b kC .char N (cs.map Value.int) d) (S : RoadKit.Sta Z h ST "COMPACT_STRINGS" "Z" (.int z)) (hz : ¬ z = 0)
    (hn : cs.length = n) (hN : N = Int32.ofNat n) (l0 : 0 < n) (l2 : n ≤ 4000) (hp : ∀ c ∈ cs, ¬ c < 0 ∧ ¬ (255 : Int32) < c) (hb : bs = cs.map (fun c => c.toInt8.toInt32)) (hfr : 4 ≤ R.frames) (hlo : W + 65 ≤ R.locals) :
    Back l R p e below s args (⟨"java/lang/String", "<init>", "([C)V"⟩ : MethodName) len W (fun P a => a = #[.ref x, .ref b] ∧ P.U.heap = h ∧ P.cells + 1 ≤ R.cells ∧ P.slots + n ≤ R.slots)
      (fun P _ v B => ∃ L, QV Z x N bs h n0 v B.U.heap L ∧ B.locs = P.locs ++ L ∧ B.cells = P.cells + 1 ∧ B.slots = P.slots + n) := by
  subst hn hN hb
  refine Back.mono (backArv hZ hw wi E V C K S hz (n32 (by omega)) l0 (by omega) (fun c hc => (hp c hc).2) hfr hlo) (fun P a hp => hp) (fun P a v B hp hq => ?_)
  obtain ⟨L, ⟨q1, q2, q3, q4, q5, q6, q7, ⟨kb, v1, v2⟩, q9⟩, hl, hc, hs⟩ := hq
  exact ⟨L, ⟨q1, fun y hy => by rw [q2 y hy]; exact hx0, q3, q5, q7, h.size, kb, hh0, Nat.le_refl _, Nat.ne_of_gt E.lt, q6, by rw [List.map_map]; exact v2⟩, hl, hc, hs⟩
end StrChars.Road
namespace StrChars
open Jvm Sem ClassFile Op Lib Jvm.Stand Jvm.Free.XT Jvm.Free.ALB Jvm.Free.JM Jvm.Free
open Jvm.Lib.Cold (StaticIs)
def hi8 (x : Int32) : Int32 := lo8 (x >>> ((8 : Int32) &&& 31))
/-- what StringUTF16.getChar makes of two bytes -/
def pairCh (u v : Int32) : Int32 := (((u &&& 255) <<< ((0 : Int32) &&& 31)) ||| ((v &&& 255) <<< ((8 : Int32) &&& 31))).toUInt32.toUInt16.toUInt32.toInt32
theorem shr0 (c : Int32) : c >>> ((0 : Int32) &&& 31) = c := by
  have e : ((0 : Int32) &&& 31) = 0 := by decide
  rw [e]
  apply Int32.toBitVec_inj.mp
  rw [Int32.toBitVec_shiftRight]
  have e1 : ((0 : Int32).toBitVec.smod 32) = 0#32 := by decide
  rw [e1, BitVec.sshiftRight_eq']
  exact BitVec.sshiftRight_zero
theorem lo8_and (x : Int32) : (lo8 x &&& 255).toBitVec.toNat = x.toBitVec.toNat % 256 := by
  have h : (lo8 x).toBitVec = (x.toBitVec.signExtend 8).signExtend 32 := by rw [lo8, Int8.toBitVec_toInt32, Int32.toBitVec_toInt8]
  rw [Int32.toBitVec_and, BitVec.toNat_and, h]
  have e : ((x.toBitVec.signExtend 8).signExtend 32).toNat % 256 = x.toBitVec.toNat % 256 := by
    rw [BitVec.toNat_signExtend]
    have hlt := x.toBitVec.isLt
    simp only [BitVec.toNat_setWidth, BitVec.toNat_signExtend]
    split <;> split <;> omega
  rw [← e]
  exact Nat.and_two_pow_sub_one_eq_mod _ 8
theorem pair_says {c : Int32} (h0 : ¬ c < 0) (h1 : ¬ 65535 < c) : pairCh (lo8 c) (hi8 c) = c := by
  rw [Int32.lt_iff_toInt_lt] at h0 h1
  have e0 : (0 : Int32).toInt = 0 := rfl
  have e1 : (65535 : Int32).toInt = 65535 := rfl
  have hc : c.toInt = c.toBitVec.toNat := by
    have := c.toBitVec.isLt
    have e : c.toInt = c.toBitVec.toInt := rfl
    rw [e] at h0 h1
    rw [e]
    rw [BitVec.toInt_eq_toNat_cond] at h0 h1 ⊢
    split at h0 <;> split <;> omega
  have hn : c.toBitVec.toNat < 65536 := by omega
  have a1 := lo8_and c
  have a2 : (hi8 c &&& 255).toBitVec.toNat = c.toBitVec.toNat / 256 := by
    rw [hi8, lo8_and]
    have e : ((8 : Int32) &&& 31) = 8 := by decide
    rw [e, Int32.toBitVec_shiftRight]
    have e2 : ((8 : Int32).toBitVec.smod 32) = 8#32 := by decide
    rw [e2, BitVec.sshiftRight_eq', BitVec.toNat_sshiftRight_of_msb_false (by rw [BitVec.msb_eq_false_iff_two_mul_lt]; omega)]
    show c.toBitVec.toNat >>> 8 % 256 = _
    rw [Nat.shiftRight_eq_div_pow]
    omega
  unfold pairCh
  apply Int32.toBitVec_inj.mp
  apply BitVec.eq_of_toNat_eq
  have f0 : ((0 : Int32) &&& 31) = 0 := by decide
  have f8 : ((8 : Int32) &&& 31) = 8 := by decide
  rw [f0, f8]
  have g : (((lo8 c &&& 255) <<< (0 : Int32)) ||| ((hi8 c &&& 255) <<< (8 : Int32))).toBitVec.toNat = c.toBitVec.toNat := by
    rw [Int32.toBitVec_or, Int32.toBitVec_shiftLeft, Int32.toBitVec_shiftLeft]
    have s0 : ((0 : Int32).toBitVec.smod 32) = 0#32 := by decide
    have s8 : ((8 : Int32).toBitVec.smod 32) = 8#32 := by decide
    rw [s0, s8, BitVec.toNat_or]
    simp only [BitVec.shiftLeft_eq', BitVec.toNat_shiftLeft, a1, a2]
    show (c.toBitVec.toNat % 256) <<< 0 % 2 ^ 32 ||| (c.toBitVec.toNat / 256) <<< 8 % 2 ^ 32 = _
    rw [Nat.shiftLeft_zero, Nat.mod_eq_of_lt (show c.toBitVec.toNat % 256 < 2 ^ 32 by omega), Nat.mod_eq_of_lt (show (c.toBitVec.toNat / 256) <<< 8 < 2 ^ 32 by rw [Nat.shiftLeft_eq]; omega), Nat.or_comm, ← Nat.shiftLeft_add_eq_or_of_lt (by omega), Nat.shiftLeft_eq]
    omega
  show BitVec.toNat (((((lo8 c &&& 255) <<< (0 : Int32)) ||| ((hi8 c &&& 255) <<< (8 : Int32))).toBitVec.setWidth 16).setWidth 32) = _
  rw [BitVec.toNat_setWidth, BitVec.toNat_setWidth, g]
  omega
end StrChars
namespace StrChars
open Jvm Sem ClassFile Op Lib Jvm.Stand Jvm.Free.XT Jvm.Free.ALB Jvm.Free.JM Jvm.Free
open Jvm.Lib.Cold (StaticIs)
theorem shr1 {n : Nat} (h : 2 * n < 2 ^ 31) : Int32.ofNat (2 * n) >>> ((1 : Int32) &&& 31) = Int32.ofNat n := by
  have e : ((1 : Int32) &&& 31) = 1 := by decide
  rw [e]
  apply Int32.toBitVec_inj.mp
  rw [Int32.toBitVec_shiftRight]
  have e1 : ((1 : Int32).toBitVec.smod 32) = 1#32 := by decide
  have hm : (BitVec.ofNat 32 (2 * n)).toNat = 2 * n := by rw [BitVec.toNat_ofNat, Nat.mod_eq_of_lt (by omega)]
  rw [e1, BitVec.sshiftRight_eq']
  apply BitVec.eq_of_toNat_eq
  show ((BitVec.ofNat 32 (2 * n)).sshiftRight 1).toNat = (BitVec.ofNat 32 n).toNat
  rw [BitVec.toNat_sshiftRight_of_msb_false (by rw [BitVec.msb_eq_false_iff_two_mul_lt, hm]; omega), hm, BitVec.toNat_ofNat, Nat.shiftRight_eq_div_pow]
  omega
/-- the array's cell V codes the n chars f 0 .. f (n - 1) by the coder cd, as the JDK does: coder 1 just where some char is above 255 -/
def Cod (cd : Int32) (n : Nat) (f : Nat → Int32) (V : Cell) : Prop := (cd = 0 ∧ V.slots.size = n ∧ ∀ j, j < n → V.slots[j]? = some (.int (lo8 (f j))) ∧ ¬ 255 < f j) ∨ (cd = 1 ∧ V.slots.size = 2 * n ∧ (∀ j, j < n → V.slots[2 * j]? = some (.int (lo8 (f j))) ∧ V.slots[2 * j + 1]? = some (.int (hi8 (f j)))) ∧ ∃ j, j < n ∧ 255 < f j)
theorem Cod.cd {cd : Int32} {n : Nat} {f : Nat → Int32} {V : Cell} (h : Cod cd n f V) : cd = 0 ∨ cd = 1 := h.imp (fun q => q.1) fun q => q.1
theorem Cod.len {cd : Int32} {n : Nat} {f : Nat → Int32} {V : Cell} (h : Cod cd n f V) (hs : V.slots.size < 2 ^ 31) : Int32.ofNat V.slots.size >>> (cd &&& 31) = Int32.ofNat n := by
  rcases h with ⟨rfl, h, -⟩ | ⟨rfl, h, -⟩
  · rw [shr0, h]
  · rw [h, shr1 (by omega)]
/-- **x is a String of the n chars f 0 .. f (n - 1)**, Latin-1 or UTF-16; its array at t has the cell V -/
def Txt (x t : Addr) (V : Cell) (cd : Int32) (n : Nat) (f : Nat → Int32) (U : State) : Prop := Exact "java/lang/String" x U ∧ Has x "java/lang/String" "value" "[B" (.ref t) U ∧ Has x "java/lang/String" "coder" "B" (.int cd) U ∧ XT.Arr .byte t V U ∧ Cod cd n f V ∧ ∀ j, j < n → ¬ f j < 0 ∧ ¬ 65535 < f j
theorem Txt.mv {x t : Addr} {V : Cell} {cd : Int32} {n : Nat} {f : Nat → Int32} {U U' : State} (h : Txt x t V cd n f U) (hal : U.vm.Alike U'.vm) (hh : U'.heap = U.heap) : Txt x t V cd n f U' := ⟨h.1.mv hal hh, h.2.1.mv hal hh, h.2.2.1.mv hal hh, h.2.2.2.1.mv hal hh, h.2.2.2.2⟩
namespace Cdr
def yN : MethodName := ⟨"java/lang/String", "coder", "()B"⟩
abbrev yB : ByteArray := jdk_42_method_152_code
theorem d0 : decode yB 0 = .ok (.getstatic 38, 3) := by decide +kernel
theorem d3 : decode yB 3 = .ok (.ifCond (.eq) 10, 3) := by decide +kernel
theorem d6 : decode yB 6 = .ok (.aload_n 0, 1) := by decide +kernel
theorem d7 : decode yB 7 = .ok (.getfield 15, 3) := by decide +kernel
theorem d10 : decode yB 10 = .ok (.goto 4, 3) := by decide +kernel
theorem d14 : decode yB 14 = .ok (.ireturn, 1) := by decide +kernel
def site : List Cond := [.fieldLink "java/lang/String" 38 "java/lang/String" "COMPACT_STRINGS" "Z", .fieldLink "java/lang/String" 15 "java/lang/String" "coder" "B"]
def tab : Cond := tabOf yN yB 1 (some .byte) site
def P (x : Addr) (cd z : Int32) (args : Array Value) (s : State) : Prop := args = #[.ref x] ∧ Has x "java/lang/String" "coder" "B" (.int cd) s ∧ (cd = 0 ∨ cd = 1) ∧ StaticIs s "java/lang/String" "COMPACT_STRINGS" "Z" (.int z) ∧ ¬ z = 0
def E (cd : Int32) (r : Option Value) (s u : State) : Prop := XT.PureE (some (.int cd)) r s u
theorem law (l : Launch) (x : Addr) (cd z : Int32) : Law l yN 1 0 0 0 yB 1 (some .byte) site (P x cd z) (E cd) [] 0 0 := by
  refine Law.of_walk (plainFor_of_name (by decide +kernel)) (by decide +kernel) (by decide +kernel) (by decide) (fun _ _ h => by rw [h.1]; rfl) (fun _ U U' hal hh h => ⟨h.1, h.2.1.mv hal hh, h.2.2.1, h.2.2.2.1.there hal hh, h.2.2.2.2⟩) (fun r U U' V V' h1 hal h2 h => XT.PureE.mv r U U' V V' h1 hal h2 h) ?_
  intro p e s m args below meth c s₁ X0 hexec hbytes hml hret hlk hnm hown hh0 W hP
  obtain ⟨rfl, hx, hc, s1, hz⟩ := hP
  have c1 : Steps p.tables e below (s₁.setTop (entryFrame m #[.ref x] 1)) (s₁.setTop (mkF m 0 #[.val (.ref x)] [])) := entry rfl
  obtain ⟨T2, X2, q2, st2⟩ := X0.sget hexec hown (wk W (.fieldLink "java/lang/String" 38 "java/lang/String" "COMPACT_STRINGS" "Z")) s1 (fun _ _ h => by rw [hh0]; exact h) (g := (mkF m 0 #[.val (.ref x)] [])) rfl (hb hbytes d0)
  have hh2 := q2.trans hh0
  have c3 : Steps p.tables e below (s₁.setTop (entryFrame m #[.ref x] 1)) (T2.setTop (mkF m 7 #[.val (.ref x)] [.ref x])) := (c1.trans (st2 _ (Steps.refl _))).trans (by
    refine XS.ifNo X2.here hexec rfl (hb hbytes d3) rfl (i0_eq_f hz) ?_
    refine XS.aloadN X2.here hexec rfl (hb hbytes d6) rfl rfl ?_
    exact Steps.refl _)
  obtain ⟨T4, X4, q4, st4⟩ := X2.hget hexec hown (wk W (.fieldLink "java/lang/String" 15 "java/lang/String" "coder" "B")) (hx.mv X2.warmed.alike hh2) (g := (mkF m 7 #[.val (.ref x)] [.ref x])) rfl (rest := []) rfl (hb hbytes d7)
  have c5 : Steps p.tables e below (s₁.setTop (entryFrame m #[.ref x] 1)) (T4.setTop (mkF m 14 #[.val (.ref x)] [.int cd])) := (c3.trans (st4 _ (Steps.refl _))).trans (by
    refine XS.goto X4.here hexec rfl (pc0 := 10) rfl (hb hbytes d10) (by decide) rfl ?_
    exact Steps.refl _)
  exact ⟨T4, some (.int cd), _, _, _, X4, rfl, rfl, rfl, (fun h => by cases h), ⟨rfl, q4.trans hh2⟩, fun fs hl => c5.trans (X4.ireturnOut hexec hret (by rcases hc with rfl | rfl <;> rfl) (Or.inr (Or.inr (Or.inl rfl))) (hb hbytes d14) hl)⟩
end Cdr
namespace Len
def yN : MethodName := ⟨"java/lang/String", "length", "()I"⟩
abbrev yB : ByteArray := jdk_42_method_54_code
theorem d0 : decode yB 0 = .ok (.aload_n 0, 1) := by decide +kernel
theorem d1 : decode yB 1 = .ok (.getfield 9, 3) := by decide +kernel
theorem d4 : decode yB 4 = .ok (.arraylength, 1) := by decide +kernel
theorem d5 : decode yB 5 = .ok (.aload_n 0, 1) := by decide +kernel
theorem d6 : decode yB 6 = .ok (.invokevirtual 335, 3) := by decide +kernel
theorem d9 : decode yB 9 = .ok (.ishr, 1) := by decide +kernel
theorem d10 : decode yB 10 = .ok (.ireturn, 1) := by decide +kernel
def site : List Cond := [.fieldLink "java/lang/String" 9 "java/lang/String" "value" "[B", Cdr.tab] ++ virtW "java/lang/String" 335 "java/lang/String" Cdr.yN Cdr.yN
def tab : Cond := tabOf yN yB 1 (some .int) site
def P (x t : Addr) (V : Cell) (cd : Int32) (n : Nat) (f : Nat → Int32) (z : Int32) (args : Array Value) (s : State) : Prop := args = #[.ref x] ∧ Txt x t V cd n f s ∧ StaticIs s "java/lang/String" "COMPACT_STRINGS" "Z" (.int z) ∧ ¬ z = 0
def E (n : Nat) (r : Option Value) (s u : State) : Prop := XT.PureE (some (.int (Int32.ofNat n))) r s u
/-- length() of a String of n chars, in either coding -/
theorem law (l : Launch) (x t : Addr) (V : Cell) (cd : Int32) (n : Nat) (f : Nat → Int32) (z : Int32) : Law l yN 1 0 1 13 yB 1 (some .int) site (P x t V cd n f z) (E n) [] 0 0 := by
  refine Law.of_walk (plainFor_of_name (by decide +kernel)) (by decide +kernel) (by decide +kernel) (by decide) (fun _ _ h => by rw [h.1]; rfl) (fun _ U U' hal hh h => ⟨h.1, h.2.1.mv hal hh, h.2.2.1.there hal hh, h.2.2.2⟩) (fun r U U' V V' h1 hal h2 h => XT.PureE.mv r U U' V V' h1 hal h2 h) ?_
  intro p e s m args below meth c s₁ X0 hexec hbytes hml hret hlk hnm hown hh0 W hP
  obtain ⟨rfl, hx, s1, hz⟩ := hP
  have v31 := hx.2.2.2.1.2.2.2
  have c1 : Steps p.tables e below (s₁.setTop (entryFrame m #[.ref x] 1)) (s₁.setTop (mkF m 1 #[.val (.ref x)] [.ref x])) := Steps.trans (entry rfl) (by
    show Steps p.tables e below (s₁.setTop (mkF m 0 #[.val (.ref x)] [])) _
    refine XS.aloadN X0.here hexec rfl (hb hbytes d0) rfl rfl ?_
    exact Steps.refl _)
  obtain ⟨T2, X2, q2, st2⟩ := X0.hget hexec hown (wk W (.fieldLink "java/lang/String" 9 "java/lang/String" "value" "[B")) (hx.mv X0.warmed.alike hh0).2.1 (g := (mkF m 1 #[.val (.ref x)] [.ref x])) rfl (rest := []) rfl (hb hbytes d1)
  have hh2 := q2.trans hh0
  have hx2 := hx.mv X2.warmed.alike hh2
  have c3 : Steps p.tables e below (s₁.setTop (entryFrame m #[.ref x] 1)) (T2.setTop (mkF m 6 #[.val (.ref x)] [.ref x, .int (Int32.ofNat V.slots.size)])) := (c1.trans (st2 _ (Steps.refl _))).trans (by
    refine X2.alen hexec hx2.2.2.2.1 rfl rfl (hb hbytes d4) ?_
    refine XS.aloadN X2.here hexec rfl (hb hbytes d5) rfl rfl ?_
    exact Steps.refl _)
  obtain ⟨v4, T4, X4, E4, g4⟩ := X2.callV hexec (Cdr.law l x cd z) hown (wks W (virtW "java/lang/String" 335 "java/lang/String" Cdr.yN Cdr.yN)) rfl (by decide) (wk W Cdr.tab) (W := 1) (Nat.le_of_ble_eq_true rfl) (Nat.le_of_ble_eq_true rfl) (Nat.le_refl _) (Nat.le_refl _) (hx2.1.fc X2.warmed.alike) hx2.1.is (g := (mkF m 6 #[.val (.ref x)] [.ref x, .int (Int32.ofNat V.slots.size)])) rfl (by rw [hml]; rfl) c3 (argsL := []) (rest := [.int (Int32.ofNat V.slots.size)]) rfl rfl (by show 2 * 0 + (1 + 0) ≤ _; decide) (hb hbytes d6) (⟨rfl, hx2.2.2.1, hx.2.2.2.2.1.cd, s1.there X2.warmed.alike hh2, hz⟩)
  obtain ⟨rfl, q4⟩ := E4
  have c5 : Steps p.tables e below (s₁.setTop (entryFrame m #[.ref x] 1)) (T4.setTop (mkF m 10 #[.val (.ref x)] [.int (Int32.ofNat V.slots.size >>> (cd &&& 31))])) := Steps.trans g4 (by
    refine ishr X4.here hexec rfl (hb hbytes d9) rfl ?_
    exact Steps.refl _)
  rw [hx.2.2.2.2.1.len v31] at c5
  exact ⟨T4, some (.int (Int32.ofNat n)), _, _, _, X4, rfl, rfl, rfl, (fun h => by cases h), ⟨rfl, q4.trans hh2⟩, fun fs hl => c5.trans (X4.ireturnOut hexec hret rfl (Or.inl rfl) (hb hbytes d10) hl)⟩
theorem pays {l : Launch} {R : Room} {p : Program} {e : Env} {below : List Frame} {s : State} {sargs : Array Value} {len W : Nat} (x t : Addr) (V : Cell) (cd : Int32) (n : Nat) (f : Nat → Int32) (z : Int32) (htab : tab.before sargs s = true) (hfr : 2 ≤ R.frames) (hlo : W + 25 ≤ R.locals) :
    Back l R p e below s sargs yN len W (fun A₁ a₁ => A₁.cells + 0 ≤ R.cells ∧ A₁.slots + 0 ≤ R.slots ∧ P x t V cd n f z a₁ A₁.U) (fun A₁ _ v₁ B₁ => E n v₁ A₁.U B₁.U ∧ B₁.locs = A₁.locs ++ [] ∧ B₁.cells = A₁.cells + 0 ∧ B₁.slots = A₁.slots + 0) :=
  (law l x t V cd n f z).pays htab hfr (by omega)
end Len
end StrChars
namespace StrChars.Road
open Jvm Sem ClassFile Op Lib Jvm.Stand Jvm.Free Jvm.Free.XT
open Jvm.Lib.Cold (StaticIs)
theorem consq {a : Array Value} {s : State} {c : Jvm.Cond} {L : List Jvm.Cond} (h0 : c.before a s = true) (h : ∀ w ∈ L, w.before a s = true) : ∀ w ∈ c :: L, w.before a s = true := fun w hw => (List.mem_cons.mp hw).elim (fun e => e ▸ h0) (h w)
/-- the words of String.length(), either coding -/
abbrev wordsLen : List Jvm.Cond := [.code Len.yN Len.yB 1 (some .int), .initialized ST, .fieldLink ST 9 ST "value" "[B", .fieldLink ST 38 ST "COMPACT_STRINGS" "Z", .fieldLink ST 15 ST "coder" "B", .code Cdr.yN Cdr.yB 1 (some .byte), .methodLink ST 335 Cdr.yN, .declares Cdr.yN, .selects ST Cdr.yN Cdr.yN, .instanceMethod Cdr.yN]
theorem tabLen_of {a : Array Value} {s : State} (h : ∀ w ∈ wordsLen, w.before a s = true) : Len.tab.before a s = true := by
  have hc : Cdr.tab.before a s = true := unparts (wk h (.code Cdr.yN Cdr.yB 1 (some .byte))) (wks h (.initialized Cdr.yN.cls :: Cdr.site))
  have q := consq hc h
  exact unparts (wk q (.code Len.yN Len.yB 1 (some .int))) (wks q (.initialized Len.yN.cls :: Len.site))
theorem movedLen {Z s : State} {a0 args : Array Value} (hZ : Z.Warmed39 s.vm) (hw : ∀ d ∈ wordsLen, d.before a0 Z = true) : ∀ d ∈ wordsLen, d.before args s = true := fun d hd => by
  have q := hw d hd
  have t : ∀ d ∈ wordsLen, d = .arrayClass .byte ∨ (d.onTables && d.keepsFace) = true := by decide +kernel
  rcases t d hd with rfl | t
  · exact RoadKit.mvA hZ q
  · exact RoadKit.mv hZ q t
/-- the bytes of the chars cs, low before high -/
def wideBytes : List Int32 → List Value
  | [] => []
  | c :: cs => .int (lo8 c) :: .int (hi8 c) :: wideBytes cs
theorem wide_lo (d : Value) : ∀ (cs : List Int32) (j : Nat), j < cs.length → (wideBytes cs).getD (2 * j) d = .int (lo8 (cs.getD j 0))
  | [], j, h => absurd h (Nat.not_lt_zero j)
  | c :: cs, 0, _ => rfl
  | c :: cs, j + 1, h => by
    have q := wide_lo d cs j (by simpa using h)
    rw [show 2 * (j + 1) = 2 * j + 1 + 1 from by omega]
    simpa [wideBytes] using q
theorem wide_hi (d : Value) : ∀ (cs : List Int32) (j : Nat), j < cs.length → (wideBytes cs).getD (2 * j + 1) d = .int (hi8 (cs.getD j 0))
  | [], j, h => absurd h (Nat.not_lt_zero j)
  | c :: cs, 0, _ => rfl
  | c :: cs, j + 1, h => by
    have q := wide_hi d cs j (by simpa using h)
    rw [show 2 * (j + 1) + 1 = 2 * j + 1 + 1 + 1 from by omega]
    simpa [wideBytes] using q
theorem low_at (d : Value) (cs : List Int32) (j : Nat) (h : j < cs.length) : (cs.map fun c => Value.int (lo8 c)).getD j d = .int (lo8 (cs.getD j 0)) := by
  simp [List.getD_eq_getElem?_getD, h]
/-- an array of N2 bytes vs codes the chars cs by the coder cd -/
def CodA (cs : List Int32) (cd N2 : Int32) (vs : List Value) : Prop := (cd = 0 ∧ N2 = Int32.ofNat cs.length ∧ vs = (cs.map fun c => Value.int (lo8 c)) ∧ ∀ c ∈ cs, ¬ 255 < c) ∨ (cd = 1 ∧ N2 = Int32.ofNat (2 * cs.length) ∧ vs = wideBytes cs ∧ ∃ c ∈ cs, 255 < c)
theorem CodA.cod {cs : List Int32} {cd N2 : Int32} {vs : List Value} {V : Cell} (h : CodA cs cd N2 vs) (hn : 2 * cs.length < 2 ^ 31) (hs : V.slots.size = N2.toNatClampNeg) (hv : RoadKit.Has V vs (.int 0)) : Cod cd cs.length (fun j => cs.getD j 0) V := by
  rcases h with ⟨rfl, rfl, rfl, h⟩ | ⟨rfl, rfl, rfl, c, hc, hw⟩
  · rw [n32 (by omega)] at hs
    exact Or.inl ⟨rfl, hs, fun j hj => ⟨by rw [hv j (by omega), low_at _ _ _ hj], by
      have e : cs.getD j 0 = cs[j] := by simp [List.getD_eq_getElem?_getD, hj]
      show ¬ 255 < cs.getD j 0
      rw [e]; exact h _ (List.getElem_mem _)⟩⟩
  · rw [n32 (by omega)] at hs
    obtain ⟨j, hj, rfl⟩ := List.getElem_of_mem hc
    exact Or.inr ⟨rfl, hs, fun j hj => ⟨by rw [hv _ (by omega), wide_lo _ _ _ hj], by rw [hv _ (by omega), wide_hi _ _ _ hj]⟩, j, hj, by
      have e : cs.getD j 0 = cs[j] := by simp [List.getD_eq_getElem?_getD, hj]
      show 255 < cs.getD j 0
      rw [e]; exact hw⟩
/-- an object of exactly java/lang/String, its two fields found: as the laws ask it -/
theorem strObj {Z U : State} {a0 : Array Value} {kI : Nat} (wi : (Jvm.Cond.instantiable ST kI).before a0 Z = true) (al : Z.vm.Alike U.vm) {x : Addr} {v0 c0 : Value} (E : RoadKit.Exa Z U.heap x ST) (V : RoadKit.Fld Z U.heap x ST "value" "[B" v0) (C : RoadKit.Fld Z U.heap x ST "coder" "B" c0) :
    ∃ (D : Cell) (fV fC : Field), Blank ST x D U ∧ Found ST "value" "[B" fV U ∧ Found ST "coder" "B" fC U ∧ D.slots[fV.slot]? = some v0 ∧ D.slots[fC.slot]? = some c0 ∧ RoadKit.slotOf Z ST "value" "[B" = fV.slot ∧ RoadKit.slotOf Z ST "coder" "B" = fC.slot := by
  obtain ⟨D, cfV, kV, iV, fV, hD, gV, stV, knV, obV, asV, slV⟩ := V
  obtain ⟨D', cfC, kC, iC, fC, hD', gC, stC, -, -, asC, slC⟩ := C
  cases hD.symm.trans hD'
  obtain ⟨D2, kD, e1, e2, e3, e4, e5⟩ := E
  cases hD.symm.trans e1
  obtain ⟨c2, k2, i1, i2, i3, -⟩ := Cond.instantiable_spec wi
  cases e2.symm.trans i1
  cases e3.symm.trans i2
  obtain ⟨kU, u1, u2⟩ := al.2.2 _ _ e3
  exact ⟨D, fV, fC, ⟨hD, ⟨knV, fun q hq => by rw [hq] at obV; cases obV⟩, by rw [al.findClass]; exact e2, kU, u1, by rw [u2]; exact i3, by rw [u2]; exact e5 i3⟩, ⟨SBG.found_only al ⟨cfV, kV, iV, gV⟩, stV⟩, ⟨SBG.found_only al ⟨cfC, kC, iC, gC⟩, stC⟩, slV, slC, by simp [RoadKit.slotOf, gV], by simp [RoadKit.slotOf, gC]⟩
theorem sta_is {Z U : State} (al : Z.vm.Alike U.vm) {C n d : String} {v : Value} (S : RoadKit.Sta Z U.heap C n d v) : StaticIs U C n d v := by
  obtain ⟨cfS, iS, kS, fS, st, cS, t1, t2, t3, t4, t5, t6, t7⟩ := S
  exact StaticIs.there (s := { Z with heap := U.heap }) ⟨cfS, iS, kS, fS, st, cS, t1, t2, t3, t4, t5, (fun q => by rw [q] at t6; cases t6), t7⟩ al rfl
/-- **length() OF SUCH A STRING** -/
theorem lenW {p : Program} {l : Launch} {e : Env} {R : Room} {s : State} {args : Array Value} {below : List Frame} {len W : Nat} {Z : State} {a0 : Array Value} {h : Heap} (hZ : Z.Warmed39 s.vm) (hw : ∀ d ∈ wordsLen, d.before a0 Z = true) {kI : Nat} (wi : (Jvm.Cond.instantiable ST kI).before a0 Z = true)
    {x t : Addr} {kb : ClassId} {cs : List Int32} {cd N2 z : Int32} {vs : List Value} (E : RoadKit.Exa Z h x ST) (V : RoadKit.Fld Z h x ST "value" "[B" (.ref t)) (C : RoadKit.Fld Z h x ST "coder" "B" (.int cd)) (K : RoadKit.Arv Z h t kb .byte N2 vs (.int 0)) (hc : CodA cs cd N2 vs) (hb : ∀ c ∈ cs, ¬ c < 0 ∧ ¬ (65535 : Int32) < c)
    (S : RoadKit.Sta Z h ST "COMPACT_STRINGS" "Z" (.int z)) (hz : ¬ z = 0) (l2 : cs.length ≤ 4000) (hfr : 2 ≤ R.frames) (hlo : W + 25 ≤ R.locals) :
    Back l R p e below s args (⟨"java/lang/String", "length", "()I"⟩ : MethodName) len W (fun P a => a = #[.ref x] ∧ P.U.heap = h ∧ P.cells + 0 ≤ R.cells ∧ P.slots + 0 ≤ R.slots)
      (fun P _ v B => ∃ L, (v = some (.int (Int32.ofNat cs.length)) ∧ L = [] ∧ B.U.heap = h) ∧ B.locs = P.locs ++ L ∧ B.cells = P.cells + 0 ∧ B.slots = P.slots + 0) := by
  obtain ⟨A, K1, K2, K3, K4, K5, K6⟩ := K
  have hcod := hc.cod (by omega) K3 K5
  intro m meth c P g ig mk a X hg hsize hdg hW hn hp'
  obtain ⟨rfl, rfl, r1, r2⟩ := hp'
  have al : Z.vm.Alike P.U.vm := hZ.alike.trans X.warmed.alike
  obtain ⟨D, fV, fC, hB, F1, F2, g1, g2, -, -⟩ := strObj wi al E V C
  have hx : Txt x t A cd cs.length (fun j => cs.getD j 0) P.U := ⟨⟨_, hB.2.2.1, D, hB.1, rfl, by cases q : D.vm <;> first | rfl | exact absurd q (hB.2.1.2 _)⟩, Has.of hB F1 g1, Has.of hB F2 g2, ⟨K1.1, State.isArrayOf_alike al K1.2.1, K1.2.2, by rcases hcod with ⟨-, q, -⟩ | ⟨-, q, -⟩ <;> omega⟩, hcod, fun j hj => by
    have e : cs.getD j 0 = cs[j] := by simp [List.getD_eq_getElem?_getD, hj]
    show ¬ cs.getD j 0 < 0 ∧ ¬ 65535 < cs.getD j 0
    rw [e]; exact hb _ (List.getElem_mem _)⟩
  obtain ⟨v, B, X', ⟨⟨hv, hh⟩, hl, hk, hs⟩, st⟩ := Len.pays x t A cd cs.length (fun j => cs.getD j 0) z (tabLen_of (movedLen hZ hw)) hfr hlo m meth c P g ig mk _ X hg hsize hdg hW hn ⟨r1, r2, rfl, hx, sta_is al S, hz⟩
  exact ⟨v, B, X', ⟨[], ⟨hv, rfl, hh⟩, hl, hk, hs⟩, st⟩
end StrChars.Road
namespace StrChars
open Jvm Sem ClassFile Op Lib Jvm.Stand Jvm.Free.XT Jvm.Free.ALB Jvm.Free.JM Jvm.Free
open Jvm.Lib.Cold (StaticIs)
/-- what place i of a byte[]'s cell holds -/
def yv (A : Cell) (i : Nat) : Int32 := match A.slots[i]? with | some (.int x) => x | _ => 0
theorem yv_get {a : Addr} {A : Cell} {U : State} (h : XT.Arr .byte a A U) (ht : Typed .byte A) {i : Nat} (hi : i < A.slots.size) : A.slots[i]? = some (.int (yv A i)) := by
  have e := Array.getElem?_eq_getElem hi
  have f := ht i _ e
  unfold yv; rw [e]
  generalize A.slots[i] = v at f
  cases v <;> simp [fits] at f ⊢
/-- the two arrays are equal, place for place -/
def EqC (A B : Cell) : Prop := A.slots.size = B.slots.size ∧ ∀ i, i < A.slots.size → yv A i = yv B i
/-- a boolean that says whether p -/
def Says01 (q : Prop) (r : Option Value) (s u : State) : Prop := ∃ v : Int32, r = some (.int v) ∧ u.heap = s.heap ∧ ((v = 1 ∧ q) ∨ (v = 0 ∧ ¬ q))
theorem Says01.mv {q : Prop} : ∀ r (U U' V V' : State), U'.heap = U.heap → V.vm.Alike V'.vm → V'.heap = V.heap → Says01 q r U V → Says01 q r U' V' :=
  fun r U U' V V' h1 _ h2 ⟨v, a, b, c⟩ => ⟨v, a, by rw [h1, h2]; exact b, c⟩
namespace LEq
def yN : MethodName := ⟨"java/lang/StringLatin1", "equals", "([B[B)Z"⟩
abbrev yB : ByteArray := jdk_43_method_13_code
theorem d0 : decode yB 0 = .ok (.aload_n 0, 1) := by decide +kernel
theorem d1 : decode yB 1 = .ok (.arraylength, 1) := by decide +kernel
theorem d2 : decode yB 2 = .ok (.aload_n 1, 1) := by decide +kernel
theorem d3 : decode yB 3 = .ok (.arraylength, 1) := by decide +kernel
theorem d4 : decode yB 4 = .ok (.if_icmp (.ne) 30, 3) := by decide +kernel
theorem d7 : decode yB 7 = .ok (.iconst 0, 1) := by decide +kernel
theorem d8 : decode yB 8 = .ok (.istore_n 2, 1) := by decide +kernel
theorem d9 : decode yB 9 = .ok (.iload_n 2, 1) := by decide +kernel
theorem d10 : decode yB 10 = .ok (.aload_n 0, 1) := by decide +kernel
theorem d11 : decode yB 11 = .ok (.arraylength, 1) := by decide +kernel
theorem d12 : decode yB 12 = .ok (.if_icmp (.ge) 20, 3) := by decide +kernel
theorem d15 : decode yB 15 = .ok (.aload_n 0, 1) := by decide +kernel
theorem d16 : decode yB 16 = .ok (.iload_n 2, 1) := by decide +kernel
theorem d17 : decode yB 17 = .ok (.baload, 1) := by decide +kernel
theorem d18 : decode yB 18 = .ok (.aload_n 1, 1) := by decide +kernel
theorem d19 : decode yB 19 = .ok (.iload_n 2, 1) := by decide +kernel
theorem d20 : decode yB 20 = .ok (.baload, 1) := by decide +kernel
theorem d21 : decode yB 21 = .ok (.if_icmp (.eq) 5, 3) := by decide +kernel
theorem d24 : decode yB 24 = .ok (.iconst 0, 1) := by decide +kernel
theorem d25 : decode yB 25 = .ok (.ireturn, 1) := by decide +kernel
theorem d26 : decode yB 26 = .ok (.iinc 2 1, 3) := by decide +kernel
theorem d29 : decode yB 29 = .ok (.goto (-20), 3) := by decide +kernel
theorem d32 : decode yB 32 = .ok (.iconst 1, 1) := by decide +kernel
theorem d33 : decode yB 33 = .ok (.ireturn, 1) := by decide +kernel
theorem d34 : decode yB 34 = .ok (.iconst 0, 1) := by decide +kernel
theorem d35 : decode yB 35 = .ok (.ireturn, 1) := by decide +kernel
def site : List Cond := []
def tab : Cond := tabOf yN yB 3 (some .boolean) site
def P (a : Addr) (A : Cell) (b : Addr) (B : Cell) (args : Array Value) (s : State) : Prop := args = #[.ref a, .ref b] ∧ XT.Arr .byte a A s ∧ Typed .byte A ∧ XT.Arr .byte b B s ∧ Typed .byte B
/-- whether two byte[] are equal, place for place -/
theorem law (l : Launch) (a : Addr) (A : Cell) (b : Addr) (B : Cell) : Law l yN 2 2 0 0 yB 3 (some .boolean) site (P a A b B) (Says01 (EqC A B)) [] 0 0 := by
  refine Law.of_walk (plainFor_of_name (by decide +kernel)) (by decide +kernel) (by decide +kernel) (by decide) (fun _ _ h => by rw [h.1]; rfl) (fun _ U U' hal hh h => ⟨h.1, h.2.1.mv hal hh, h.2.2.1, h.2.2.2.1.mv hal hh, h.2.2.2.2⟩) (fun r U U' V V' h1 hal h2 h => Says01.mv r U U' V V' h1 hal h2 h) ?_
  intro p e s m args below meth c s₁ X0 hexec hbytes hml hret hlk hnm hown hh0 W hP
  obtain ⟨rfl, hA, tA, hB, tB⟩ := hP
  have a31 := hA.2.2.2
  have b31 := hB.2.2.2
  have hA0 := hA.mv X0.warmed.alike hh0
  have hB0 := hB.mv X0.warmed.alike hh0
  have c1 : Steps p.tables e below (s₁.setTop (entryFrame m #[.ref a, .ref b] 3)) (s₁.setTop (mkF m 0 #[.val (.ref a), .val (.ref b), .unset] [])) := entry rfl
  have c2 : Steps p.tables e below (s₁.setTop (entryFrame m #[.ref a, .ref b] 3)) (s₁.setTop (mkF m 4 #[.val (.ref a), .val (.ref b), .unset] [.int (Int32.ofNat B.slots.size), .int (Int32.ofNat A.slots.size)])) := c1.trans (by
    refine XS.aloadN X0.here hexec rfl (hb hbytes d0) rfl rfl ?_
    refine X0.alen hexec hA0 rfl rfl (hb hbytes d1) ?_
    refine XS.aloadN X0.here hexec rfl (hb hbytes d2) rfl rfl ?_
    refine X0.alen hexec hB0 rfl rfl (hb hbytes d3) ?_
    exact Steps.refl _)
  by_cases hs : A.slots.size = B.slots.size
  · have c3 : Steps p.tables e below (s₁.setTop (entryFrame m #[.ref a, .ref b] 3)) (s₁.setTop (mkF m 9 #[.val (.ref a), .val (.ref b), .val (.int 0)] [])) := c2.trans (by
      refine XS.icmpNo X0.here hexec rfl (hb hbytes d4) rfl (ii_ne_f (by rw [hs])) ?_
      refine iconstV X0.here hexec rfl 0 (hb hbytes d7) (by decide) ?_
      refine XS.istoreN X0.here hexec rfl (hb hbytes d8) rfl rfl ?_
      exact Steps.refl _)
    have loop : ∀ (r i : Nat), i + r = A.slots.size → (∀ j, j < i → yv A j = yv B j) → Steps p.tables e below (s₁.setTop (entryFrame m #[.ref a, .ref b] 3)) (s₁.setTop (mkF m 9 #[.val (.ref a), .val (.ref b), .val (.int (Int32.ofNat i))] [])) → ∃ (pc : Nat) (Ls : Array Slot) (v : Int32), (pc = 25 ∨ pc = 33) ∧ ((v = 1 ∧ EqC A B) ∨ (v = 0 ∧ ¬ EqC A B)) ∧ Steps p.tables e below (s₁.setTop (entryFrame m #[.ref a, .ref b] 3)) (s₁.setTop (mkF m pc Ls [.int v])) := by
      intro r
      induction r with
      | zero =>
        intro i hi he cl
        exact ⟨33, _, 1, Or.inr rfl, Or.inl ⟨rfl, hs, fun j hj => he j (by omega)⟩, cl.trans (by
          refine XS.iloadN X0.here hexec rfl (hb hbytes d9) rfl ?_
          refine XS.aloadN X0.here hexec rfl (hb hbytes d10) rfl rfl ?_
          refine X0.alen hexec hA0 rfl rfl (hb hbytes d11) ?_
          refine XS.icmpYes X0.here hexec rfl (pc0 := 12) rfl (hb hbytes d12) rfl (ii_ge_t (nlt32 (by omega) (by omega))) (by decide) rfl ?_
          refine iconstV X0.here hexec rfl 1 (hb hbytes d32) (by decide) ?_
          exact Steps.refl _)⟩
      | succ r ih =>
        intro i hi he cl
        have c4 : Steps p.tables e below (s₁.setTop (entryFrame m #[.ref a, .ref b] 3)) (s₁.setTop (mkF m 21 #[.val (.ref a), .val (.ref b), .val (.int (Int32.ofNat i))] [.int (yv B i), .int (yv A i)])) := cl.trans (by
          refine XS.iloadN X0.here hexec rfl (hb hbytes d9) rfl ?_
          refine XS.aloadN X0.here hexec rfl (hb hbytes d10) rfl rfl ?_
          refine X0.alen hexec hA0 rfl rfl (hb hbytes d11) ?_
          refine XS.icmpNo X0.here hexec rfl (hb hbytes d12) rfl (ii_ge_f (lt32 (by omega) (by omega))) ?_
          refine XS.aloadN X0.here hexec rfl (hb hbytes d15) rfl rfl ?_
          refine XS.iloadN X0.here hexec rfl (hb hbytes d16) rfl ?_
          refine X0.aget hexec hA0 rfl (yv_get hA tA (i := i) (by omega)) rfl rfl (hb hbytes d17) ?_
          refine XS.aloadN X0.here hexec rfl (hb hbytes d18) rfl rfl ?_
          refine XS.iloadN X0.here hexec rfl (hb hbytes d19) rfl ?_
          refine X0.aget hexec hB0 rfl (yv_get hB tB (i := i) (by omega)) rfl rfl (hb hbytes d20) ?_
          exact Steps.refl _)
        by_cases hv : yv A i = yv B i
        · have c5 : Steps p.tables e below (s₁.setTop (entryFrame m #[.ref a, .ref b] 3)) (s₁.setTop (mkF m 9 #[.val (.ref a), .val (.ref b), .val (.int (Int32.ofNat i + 1))] [])) := c4.trans (by
            refine XS.icmpYes X0.here hexec rfl (pc0 := 21) rfl (hb hbytes d21) rfl (ii_eq_t hv) (by decide) rfl ?_
            refine iincV X0.here hexec rfl 1 (hb hbytes d26) (by decide) rfl rfl ?_
            refine XS.goto X0.here hexec rfl (pc0 := 29) rfl (hb hbytes d29) (by decide) rfl ?_
            exact Steps.refl _)
          rw [succ32] at c5
          exact ih (i + 1) (by omega) (fun j hj => by
            by_cases e : j = i
            · rw [e]; exact hv
            · exact he j (by omega)) c5
        · exact ⟨25, _, 0, Or.inl rfl, Or.inr ⟨rfl, fun q => hv (q.2 i (by omega))⟩, c4.trans (by
            refine XS.icmpNo X0.here hexec rfl (hb hbytes d21) rfl (ii_eq_f hv) ?_
            refine iconstV X0.here hexec rfl 0 (hb hbytes d24) (by decide) ?_
            exact Steps.refl _)⟩
    obtain ⟨pc, Ls, v, hpc, hv, cz⟩ := loop A.slots.size 0 (by omega) (fun j hj => absurd hj (Nat.not_lt_zero j)) c3
    have nv : narrow .boolean (.int v) = .int v := by rcases hv with ⟨rfl, -⟩ | ⟨rfl, -⟩ <;> rfl
    rcases hpc with rfl | rfl
    · exact ⟨s₁, some (.int v), _, _, _, X0, rfl, rfl, rfl, (fun h => by cases h), ⟨v, rfl, hh0, hv⟩, fun fs hl => cz.trans (X0.ireturnOut hexec hret nv (Or.inr (Or.inl rfl)) (hb hbytes d25) hl)⟩
    · exact ⟨s₁, some (.int v), _, _, _, X0, rfl, rfl, rfl, (fun h => by cases h), ⟨v, rfl, hh0, hv⟩, fun fs hl => cz.trans (X0.ireturnOut hexec hret nv (Or.inr (Or.inl rfl)) (hb hbytes d33) hl)⟩
  · have c3 : Steps p.tables e below (s₁.setTop (entryFrame m #[.ref a, .ref b] 3)) (s₁.setTop (mkF m 35 #[.val (.ref a), .val (.ref b), .unset] [.int 0])) := c2.trans (by
      refine XS.icmpYes X0.here hexec rfl (pc0 := 4) rfl (hb hbytes d4) rfl (ii_ne_t (ne32 a31 b31 hs)) (by decide) rfl ?_
      refine iconstV X0.here hexec rfl 0 (hb hbytes d34) (by decide) ?_
      exact Steps.refl _)
    exact ⟨s₁, some (.int 0), _, _, _, X0, rfl, rfl, rfl, (fun h => by cases h), ⟨0, rfl, hh0, Or.inr ⟨rfl, fun q => hs q.1⟩⟩, fun fs hl => c3.trans (X0.ireturnOut hexec hret rfl (Or.inr (Or.inl rfl)) (hb hbytes d35) hl)⟩
end LEq
theorem Cod.ty {cd : Int32} {n : Nat} {f : Nat → Int32} {V : Cell} (h : Cod cd n f V) : Typed .byte V := fun i v hv => by
  have hi : i < V.slots.size := (Array.getElem?_eq_some_iff.mp hv).1
  rcases h with ⟨-, k1, k2⟩ | ⟨-, k1, k2, -⟩
  · rw [(k2 i (by omega)).1] at hv; cases hv; exact fits_lo8 _
  · rcases Nat.mod_two_eq_zero_or_one i with e | e
    · obtain ⟨j, rfl⟩ : ∃ j, i = 2 * j := ⟨i / 2, by omega⟩
      rw [(k2 j (by omega)).1] at hv; cases hv; exact fits_lo8 _
    · obtain ⟨j, rfl⟩ : ∃ j, i = 2 * j + 1 := ⟨i / 2, by omega⟩
      rw [(k2 j (by omega)).2] at hv; cases hv; exact fits_lo8 _
/-- the same text -/
def SameT (n : Nat) (f : Nat → Int32) (k : Nat) (g : Nat → Int32) : Prop := n = k ∧ ∀ j, j < n → f j = g j
theorem lo8_inj {x y : Int32} (h0 : ¬ x < 0) (h1 : ¬ 255 < x) (k0 : ¬ y < 0) (k1 : ¬ 255 < y) (h : lo8 x = lo8 y) : x = y := by
  rw [← lo8_mask h0 h1, ← lo8_mask k0 k1, h]
/-- arrays coded by one coder are equal just where the texts are -/
theorem Cod.eqv {cd : Int32} {n k : Nat} {f g : Nat → Int32} {V V' : Cell} (h : Cod cd n f V) (h' : Cod cd k g V') (hf : ∀ j, j < n → ¬ f j < 0 ∧ ¬ 65535 < f j) (hg : ∀ j, j < k → ¬ g j < 0 ∧ ¬ 65535 < g j) : EqC V V' ↔ SameT n f k g := by
  have yvv : ∀ {W : Cell} {i : Nat} {x : Int32}, W.slots[i]? = some (.int x) → yv W i = x := fun q => by unfold yv; rw [q]
  rcases h with ⟨rfl, k1, k2⟩ | ⟨rfl, k1, k2, -⟩
  · rcases h' with ⟨-, m1, m2⟩ | ⟨e, -⟩
    · constructor
      · rintro ⟨e1, e2⟩
        refine ⟨by omega, fun j hj => ?_⟩
        have q := e2 j (by omega)
        rw [yvv (k2 j hj).1, yvv (m2 j (by omega)).1] at q
        exact lo8_inj (hf j hj).1 (k2 j hj).2 (hg j (by omega)).1 (m2 j (by omega)).2 q
      · rintro ⟨rfl, e2⟩
        refine ⟨by omega, fun j hj => ?_⟩
        rw [yvv (k2 j (by omega)).1, yvv (m2 j (by omega)).1, e2 j (by omega)]
    · exact absurd e (by decide)
  · rcases h' with ⟨e, -⟩ | ⟨-, m1, m2, -⟩
    · exact absurd e (by decide)
    · constructor
      · rintro ⟨e1, e2⟩
        refine ⟨by omega, fun j hj => ?_⟩
        have q1 := e2 (2 * j) (by omega)
        have q2 := e2 (2 * j + 1) (by omega)
        rw [yvv (k2 j hj).1, yvv (m2 j (by omega)).1] at q1
        rw [yvv (k2 j hj).2, yvv (m2 j (by omega)).2] at q2
        rw [← pair_says (hf j hj).1 (hf j hj).2, ← pair_says (hg j (by omega)).1 (hg j (by omega)).2, q1, q2]
      · rintro ⟨rfl, e2⟩
        refine ⟨by omega, fun i hi => ?_⟩
        rcases Nat.mod_two_eq_zero_or_one i with e | e
        · obtain ⟨j, rfl⟩ : ∃ j, i = 2 * j := ⟨i / 2, by omega⟩
          rw [yvv (k2 j (by omega)).1, yvv (m2 j (by omega)).1, e2 j (by omega)]
        · obtain ⟨j, rfl⟩ : ∃ j, i = 2 * j + 1 := ⟨i / 2, by omega⟩
          rw [yvv (k2 j (by omega)).2, yvv (m2 j (by omega)).2, e2 j (by omega)]
/-- two codings differ: so do the texts -/
theorem Cod.dif {cd cd' : Int32} {n k : Nat} {f g : Nat → Int32} {V V' : Cell} (h : Cod cd n f V) (h' : Cod cd' k g V') (hne : ¬ cd = cd') : ¬ SameT n f k g := by
  rintro ⟨rfl, e⟩
  rcases h with ⟨rfl, -, k2⟩ | ⟨rfl, -, -, j, hj, hw⟩
  · rcases h' with ⟨rfl, -⟩ | ⟨-, -, -, j, hj, hw⟩
    · exact hne rfl
    · exact (k2 j hj).2 (by rw [e j hj]; exact hw)
  · rcases h' with ⟨-, -, m2⟩ | ⟨rfl, -⟩
    · exact (m2 j hj).2 (by rw [← e j hj]; exact hw)
    · exact hne rfl
/-- an object of exactly C is an instance of C -/
theorem cinst {p : Program} {l : Launch} {e : Env} {R : Room} {s : State} {m : MethodId} {args : Array Value} {below : List Frame} {meth : Method} {c : Code} {T : State} {locs : List Loc} {cells slots : Nat} (X : Stand p l e R s m args below meth c T locs cells slots) (hexec : p.tables.exec = Jvm.exec) {own C : String} {index : Nat} (hown : s.vm.findClass own = some m.cls) (hlink : (Cond.classLink own index C).before args s = true) {a : Addr} (hE : Exact C a T)
    {g : JFrame} (hg : g.method = m) {rest : List Value} (hstack : g.stack = .ref a :: rest) (hdg : decode c.code g.pc = .ok (.instanceof index, 3)) :
    ∃ T', Stand p l e R s m args below meth c T' locs cells slots ∧ T'.heap = T.heap ∧ ∀ target, Steps p.tables e below (T'.setTop { g with pc := g.pc + 3, stack := .int 1 :: rest }) target → Steps p.tables e below (T.setTop g) target := by
  obtain ⟨cB, h1, D, h2, h3, h4⟩ := hE
  have h1' : s.vm.findClass C = some cB := by rw [← X.warmed.alike.findClass]; exact h1
  obtain ⟨vm', X', st⟩ := X.instanceofYes hexec hown hlink h2 h4 h1' (by rw [h3]; exact Jvm.Free.SB.assignable_self _ _) hg hstack hdg
  exact ⟨_, X', rfl, st⟩
theorem cself {p : Program} {l : Launch} {e : Env} {R : Room} {s : State} {m : MethodId} {args : Array Value} {below : List Frame} {meth : Method} {c : Code} {T : State} {locs : List Loc} {cells slots : Nat} (X : Stand p l e R s m args below meth c T locs cells slots) (hexec : p.tables.exec = Jvm.exec) {own C : String} {index : Nat} (hown : s.vm.findClass own = some m.cls) (hlink : (Cond.classLink own index C).before args s = true) {a : Addr} (hE : Exact C a T)
    {g : JFrame} (hg : g.method = m) {rest : List Value} (hstack : g.stack = .ref a :: rest) (hdg : decode c.code g.pc = .ok (.checkcast index, 3)) :
    ∃ T', Stand p l e R s m args below meth c T' locs cells slots ∧ T'.heap = T.heap ∧ ∀ target, Steps p.tables e below (T'.setTop { g with pc := g.pc + 3, stack := .ref a :: rest }) target → Steps p.tables e below (T.setTop g) target := by
  obtain ⟨cB, h1, D, h2, h3, h4⟩ := hE
  have h1' : s.vm.findClass C = some cB := by rw [← X.warmed.alike.findClass]; exact h1
  obtain ⟨vm', X', st⟩ := X.checkcastYes hexec hown hlink h2 h4 h1' (by rw [h3]; exact Jvm.Free.SB.assignable_self _ _) hg hstack hdg
  exact ⟨_, X', rfl, fun t h => st t (by rw [← hstack] at h; exact h)⟩
namespace SEq
def yN : MethodName := ⟨"java/lang/String", "equals", "(Ljava/lang/Object;)Z"⟩
abbrev yB : ByteArray := jdk_42_method_66_code
theorem d0 : decode yB 0 = .ok (.aload_n 0, 1) := by decide +kernel
theorem d1 : decode yB 1 = .ok (.aload_n 1, 1) := by decide +kernel
theorem d2 : decode yB 2 = .ok (.if_acmp (.ne) 5, 3) := by decide +kernel
theorem d5 : decode yB 5 = .ok (.iconst 1, 1) := by decide +kernel
theorem d6 : decode yB 6 = .ok (.ireturn, 1) := by decide +kernel
theorem d7 : decode yB 7 = .ok (.aload_n 1, 1) := by decide +kernel
theorem d8 : decode yB 8 = .ok (.instanceof 10, 3) := by decide +kernel
theorem d11 : decode yB 11 = .ok (.ifCond (.eq) 43, 3) := by decide +kernel
theorem d14 : decode yB 14 = .ok (.aload_n 1, 1) := by decide +kernel
theorem d15 : decode yB 15 = .ok (.checkcast 10, 3) := by decide +kernel
theorem d18 : decode yB 18 = .ok (.astore_n 2, 1) := by decide +kernel
theorem d19 : decode yB 19 = .ok (.getstatic 38, 3) := by decide +kernel
theorem d22 : decode yB 22 = .ok (.ifCond (.eq) 14, 3) := by decide +kernel
theorem d25 : decode yB 25 = .ok (.aload_n 0, 1) := by decide +kernel
theorem d26 : decode yB 26 = .ok (.getfield 15, 3) := by decide +kernel
theorem d29 : decode yB 29 = .ok (.aload_n 2, 1) := by decide +kernel
theorem d30 : decode yB 30 = .ok (.getfield 15, 3) := by decide +kernel
theorem d33 : decode yB 33 = .ok (.if_icmp (.ne) 21, 3) := by decide +kernel
theorem d36 : decode yB 36 = .ok (.aload_n 0, 1) := by decide +kernel
theorem d37 : decode yB 37 = .ok (.getfield 9, 3) := by decide +kernel
theorem d40 : decode yB 40 = .ok (.aload_n 2, 1) := by decide +kernel
theorem d41 : decode yB 41 = .ok (.getfield 9, 3) := by decide +kernel
theorem d44 : decode yB 44 = .ok (.invokestatic 541, 3) := by decide +kernel
theorem d47 : decode yB 47 = .ok (.ifCond (.eq) 7, 3) := by decide +kernel
theorem d50 : decode yB 50 = .ok (.iconst 1, 1) := by decide +kernel
theorem d51 : decode yB 51 = .ok (.goto 4, 3) := by decide +kernel
theorem d54 : decode yB 54 = .ok (.iconst 0, 1) := by decide +kernel
theorem d55 : decode yB 55 = .ok (.ireturn, 1) := by decide +kernel
def site : List Cond := [.classLink "java/lang/String" 10 "java/lang/String", .fieldLink "java/lang/String" 38 "java/lang/String" "COMPACT_STRINGS" "Z", .fieldLink "java/lang/String" 15 "java/lang/String" "coder" "B", .fieldLink "java/lang/String" 9 "java/lang/String" "value" "[B", LEq.tab] ++ staticW "java/lang/String" 541 LEq.yN
def tab : Cond := tabOf yN yB 3 (some .boolean) site
def P (x t : Addr) (V : Cell) (cd : Int32) (n : Nat) (f : Nat → Int32) (y t' : Addr) (V' : Cell) (cd' : Int32) (k : Nat) (g : Nat → Int32) (z : Int32) (args : Array Value) (s : State) : Prop := args = #[.ref x, .ref y] ∧ Txt x t V cd n f s ∧ Txt y t' V' cd' k g s ∧ StaticIs s "java/lang/String" "COMPACT_STRINGS" "Z" (.int z) ∧ ¬ z = 0
/-- equals(Object) of two Strings: whether the texts are the same -/
theorem law (l : Launch) (x t : Addr) (V : Cell) (cd : Int32) (n : Nat) (f : Nat → Int32) (y t' : Addr) (V' : Cell) (cd' : Int32) (k : Nat) (g : Nat → Int32) (z : Int32) : Law l yN 2 1 1 14 yB 3 (some .boolean) site (P x t V cd n f y t' V' cd' k g z) (Says01 (SameT n f k g)) [] 0 0 := by
  refine Law.of_walk (plainFor_of_name (by decide +kernel)) (by decide +kernel) (by decide +kernel) (by decide) (fun _ _ h => by rw [h.1]; rfl) (fun _ U U' hal hh h => ⟨h.1, h.2.1.mv hal hh, h.2.2.1.mv hal hh, h.2.2.2.1.there hal hh, h.2.2.2.2⟩) (fun r U U' V V' h1 hal h2 h => Says01.mv r U U' V V' h1 hal h2 h) ?_
  intro p e s m args below meth c s₁ X0 hexec hbytes hml hret hlk hnm hown hh0 W hP
  obtain ⟨rfl, hx, hy, s1, hz⟩ := hP
  have c1 : Steps p.tables e below (s₁.setTop (entryFrame m #[.ref x, .ref y] 3)) (s₁.setTop (mkF m 2 #[.val (.ref x), .val (.ref y), .unset] [.ref y, .ref x])) := Steps.trans (entry rfl) (by
    show Steps p.tables e below (s₁.setTop (mkF m 0 #[.val (.ref x), .val (.ref y), .unset] [])) _
    refine XS.aloadN X0.here hexec rfl (hb hbytes d0) rfl rfl ?_
    refine XS.aloadN X0.here hexec rfl (hb hbytes d1) rfl rfl ?_
    exact Steps.refl _)
  by_cases hxy : x = y
  · have c2 : Steps p.tables e below (s₁.setTop (entryFrame m #[.ref x, .ref y] 3)) (s₁.setTop (mkF m 6 #[.val (.ref x), .val (.ref y), .unset] [.int 1])) := c1.trans (by
      refine acmpNo X0.here hexec rfl (hb hbytes d2) rfl rfl rfl (by simp [acmp, hxy]) ?_
      refine iconstV X0.here hexec rfl 1 (hb hbytes d5) (by decide) ?_
      exact Steps.refl _)
    subst hxy
    have ec : cd = cd' := by
      obtain ⟨D, fd, a1, a2, a3⟩ := hx.2.2.1
      obtain ⟨D', fd', b1, b2, b3⟩ := hy.2.2.1
      cases a1.symm.trans b1
      obtain ⟨q1, q2, q3, q4⟩ := a2.1
      obtain ⟨r1, r2, r3, r4⟩ := b2.1
      cases q4.symm.trans r4
      cases a3.symm.trans b3; rfl
    have et : t = t' := by
      obtain ⟨D, fd, a1, a2, a3⟩ := hx.2.1
      obtain ⟨D', fd', b1, b2, b3⟩ := hy.2.1
      cases a1.symm.trans b1
      obtain ⟨q1, q2, q3, q4⟩ := a2.1
      obtain ⟨r1, r2, r3, r4⟩ := b2.1
      cases q4.symm.trans r4
      cases a3.symm.trans b3; rfl
    subst ec et
    have ev : V = V' := by cases hx.2.2.2.1.1.symm.trans hy.2.2.2.1.1; rfl
    subst ev
    have hs : SameT n f k g := (Cod.eqv hx.2.2.2.2.1 hy.2.2.2.2.1 hx.2.2.2.2.2 hy.2.2.2.2.2).mp ⟨rfl, fun _ _ => rfl⟩
    exact ⟨s₁, some (.int 1), _, _, _, X0, rfl, rfl, rfl, (fun h => by cases h), ⟨1, rfl, hh0, Or.inl ⟨rfl, hs⟩⟩, fun fs hl => c2.trans (X0.ireturnOut hexec hret rfl (Or.inr (Or.inl rfl)) (hb hbytes d6) hl)⟩
  · have c2 : Steps p.tables e below (s₁.setTop (entryFrame m #[.ref x, .ref y] 3)) (s₁.setTop (mkF m 8 #[.val (.ref x), .val (.ref y), .unset] [.ref y])) := c1.trans (by
      refine acmpYes X0.here hexec rfl (pc0 := 2) rfl (hb hbytes d2) rfl rfl rfl (by simp [acmp, hxy]) (by decide) rfl ?_
      refine XS.aloadN X0.here hexec rfl (hb hbytes d7) rfl rfl ?_
      exact Steps.refl _)
    obtain ⟨T3, X3, q3, st3⟩ := cinst X0 hexec hown (wk W (.classLink "java/lang/String" 10 "java/lang/String")) (hy.mv X0.warmed.alike hh0).1 (g := (mkF m 8 #[.val (.ref x), .val (.ref y), .unset] [.ref y])) rfl (rest := []) rfl (hb hbytes d8)
    have hh3 := q3.trans hh0
    have c4 : Steps p.tables e below (s₁.setTop (entryFrame m #[.ref x, .ref y] 3)) (T3.setTop (mkF m 15 #[.val (.ref x), .val (.ref y), .unset] [.ref y])) := (c2.trans (st3 _ (Steps.refl _))).trans (by
      refine XS.ifNo X3.here hexec rfl (hb hbytes d11) rfl (i0_eq_f (by decide)) ?_
      refine XS.aloadN X3.here hexec rfl (hb hbytes d14) rfl rfl ?_
      exact Steps.refl _)
    obtain ⟨T5, X5, q5, st5⟩ := cself X3 hexec hown (wk W (.classLink "java/lang/String" 10 "java/lang/String")) (hy.mv X3.warmed.alike hh3).1 (g := (mkF m 15 #[.val (.ref x), .val (.ref y), .unset] [.ref y])) rfl (rest := []) rfl (hb hbytes d15)
    have hh5 := q5.trans hh3
    have c6 : Steps p.tables e below (s₁.setTop (entryFrame m #[.ref x, .ref y] 3)) (T5.setTop (mkF m 19 #[.val (.ref x), .val (.ref y), .val (.ref y)] [])) := (c4.trans (st5 _ (Steps.refl _))).trans (by
      refine XS.astoreN X5.here hexec rfl (hb hbytes d18) rfl rfl rfl ?_
      exact Steps.refl _)
    obtain ⟨T7, X7, q7, st7⟩ := X5.sget hexec hown (wk W (.fieldLink "java/lang/String" 38 "java/lang/String" "COMPACT_STRINGS" "Z")) s1 (fun _ _ h => by rw [hh5]; exact h) (g := (mkF m 19 #[.val (.ref x), .val (.ref y), .val (.ref y)] [])) rfl (hb hbytes d19)
    have hh7 := q7.trans hh5
    have c8 : Steps p.tables e below (s₁.setTop (entryFrame m #[.ref x, .ref y] 3)) (T7.setTop (mkF m 26 #[.val (.ref x), .val (.ref y), .val (.ref y)] [.ref x])) := (c6.trans (st7 _ (Steps.refl _))).trans (by
      refine XS.ifNo X7.here hexec rfl (hb hbytes d22) rfl (i0_eq_f hz) ?_
      refine XS.aloadN X7.here hexec rfl (hb hbytes d25) rfl rfl ?_
      exact Steps.refl _)
    obtain ⟨T9, X9, q9, st9⟩ := X7.hget hexec hown (wk W (.fieldLink "java/lang/String" 15 "java/lang/String" "coder" "B")) (hx.mv X7.warmed.alike hh7).2.2.1 (g := (mkF m 26 #[.val (.ref x), .val (.ref y), .val (.ref y)] [.ref x])) rfl (rest := []) rfl (hb hbytes d26)
    have hh9 := q9.trans hh7
    have c10 : Steps p.tables e below (s₁.setTop (entryFrame m #[.ref x, .ref y] 3)) (T9.setTop (mkF m 30 #[.val (.ref x), .val (.ref y), .val (.ref y)] [.ref y, .int cd])) := (c8.trans (st9 _ (Steps.refl _))).trans (by
      refine XS.aloadN X9.here hexec rfl (hb hbytes d29) rfl rfl ?_
      exact Steps.refl _)
    obtain ⟨T11, X11, q11, st11⟩ := X9.hget hexec hown (wk W (.fieldLink "java/lang/String" 15 "java/lang/String" "coder" "B")) (hy.mv X9.warmed.alike hh9).2.2.1 (g := (mkF m 30 #[.val (.ref x), .val (.ref y), .val (.ref y)] [.ref y, .int cd])) rfl (rest := [.int cd]) rfl (hb hbytes d30)
    have hh11 := q11.trans hh9
    have c12 : Steps p.tables e below (s₁.setTop (entryFrame m #[.ref x, .ref y] 3)) (T11.setTop (mkF m 33 #[.val (.ref x), .val (.ref y), .val (.ref y)] [.int cd', .int cd])) := c10.trans (st11 _ (Steps.refl _))
    by_cases hcd : cd = cd'
    · subst hcd
      have c13 : Steps p.tables e below (s₁.setTop (entryFrame m #[.ref x, .ref y] 3)) (T11.setTop (mkF m 37 #[.val (.ref x), .val (.ref y), .val (.ref y)] [.ref x])) := c12.trans (by
        refine XS.icmpNo X11.here hexec rfl (hb hbytes d33) rfl (ii_ne_f rfl) ?_
        refine XS.aloadN X11.here hexec rfl (hb hbytes d36) rfl rfl ?_
        exact Steps.refl _)
      obtain ⟨T14, X14, q14, st14⟩ := X11.hget hexec hown (wk W (.fieldLink "java/lang/String" 9 "java/lang/String" "value" "[B")) (hx.mv X11.warmed.alike hh11).2.1 (g := (mkF m 37 #[.val (.ref x), .val (.ref y), .val (.ref y)] [.ref x])) rfl (rest := []) rfl (hb hbytes d37)
      have hh14 := q14.trans hh11
      have c15 : Steps p.tables e below (s₁.setTop (entryFrame m #[.ref x, .ref y] 3)) (T14.setTop (mkF m 41 #[.val (.ref x), .val (.ref y), .val (.ref y)] [.ref y, .ref t])) := (c13.trans (st14 _ (Steps.refl _))).trans (by
        refine XS.aloadN X14.here hexec rfl (hb hbytes d40) rfl rfl ?_
        exact Steps.refl _)
      obtain ⟨T16, X16, q16, st16⟩ := X14.hget hexec hown (wk W (.fieldLink "java/lang/String" 9 "java/lang/String" "value" "[B")) (hy.mv X14.warmed.alike hh14).2.1 (g := (mkF m 41 #[.val (.ref x), .val (.ref y), .val (.ref y)] [.ref y, .ref t])) rfl (rest := [.ref t]) rfl (hb hbytes d41)
      have hh16 := q16.trans hh14
      have c17 : Steps p.tables e below (s₁.setTop (entryFrame m #[.ref x, .ref y] 3)) (T16.setTop (mkF m 44 #[.val (.ref x), .val (.ref y), .val (.ref y)] [.ref t', .ref t])) := c15.trans (st16 _ (Steps.refl _))
      obtain ⟨v18, T18, X18, E18, g18⟩ := X16.callS hexec (LEq.law l t V t' V') hown (wks W (staticW "java/lang/String" 541 LEq.yN)) (wk W LEq.tab) (W := 0) (Nat.le_of_ble_eq_true rfl) (Nat.le_of_ble_eq_true rfl) (Nat.le_refl _) (Nat.le_refl _) (g := (mkF m 44 #[.val (.ref x), .val (.ref y), .val (.ref y)] [.ref t', .ref t])) rfl (by rw [hml]; rfl) c17 (argsL := [.ref t, .ref t']) (rest := []) rfl rfl (by show 2 * 0 + 0 ≤ _; decide) (hb hbytes d44) (⟨rfl, hx.2.2.2.1.mv X16.warmed.alike hh16, hx.2.2.2.2.1.ty, hy.2.2.2.1.mv X16.warmed.alike hh16, hy.2.2.2.2.1.ty⟩)
      obtain ⟨v, rfl, q18, hv⟩ := E18
      have iff := Cod.eqv hx.2.2.2.2.1 hy.2.2.2.2.1 hx.2.2.2.2.2 hy.2.2.2.2.2
      rcases hv with ⟨rfl, he⟩ | ⟨rfl, he⟩
      · have c19 : Steps p.tables e below (s₁.setTop (entryFrame m #[.ref x, .ref y] 3)) (T18.setTop (mkF m 55 #[.val (.ref x), .val (.ref y), .val (.ref y)] [.int 1])) := Steps.trans g18 (by
          refine XS.ifNo X18.here hexec rfl (hb hbytes d47) rfl (i0_eq_f (by decide)) ?_
          refine iconstV X18.here hexec rfl 1 (hb hbytes d50) (by decide) ?_
          refine XS.goto X18.here hexec rfl (pc0 := 51) rfl (hb hbytes d51) (by decide) rfl ?_
          exact Steps.refl _)
        exact ⟨T18, some (.int 1), _, _, _, X18, rfl, rfl, rfl, (fun h => by cases h), ⟨1, rfl, q18.trans hh16, Or.inl ⟨rfl, iff.mp he⟩⟩, fun fs hl => c19.trans (X18.ireturnOut hexec hret rfl (Or.inr (Or.inl rfl)) (hb hbytes d55) hl)⟩
      · have c19 : Steps p.tables e below (s₁.setTop (entryFrame m #[.ref x, .ref y] 3)) (T18.setTop (mkF m 55 #[.val (.ref x), .val (.ref y), .val (.ref y)] [.int 0])) := Steps.trans g18 (by
          refine XS.ifYes X18.here hexec rfl (pc0 := 47) rfl (hb hbytes d47) rfl (i0_eq_t rfl) (by decide) rfl ?_
          refine iconstV X18.here hexec rfl 0 (hb hbytes d54) (by decide) ?_
          exact Steps.refl _)
        exact ⟨T18, some (.int 0), _, _, _, X18, rfl, rfl, rfl, (fun h => by cases h), ⟨0, rfl, q18.trans hh16, Or.inr ⟨rfl, fun q => he (iff.mpr q)⟩⟩, fun fs hl => c19.trans (X18.ireturnOut hexec hret rfl (Or.inr (Or.inl rfl)) (hb hbytes d55) hl)⟩
    · have c13 : Steps p.tables e below (s₁.setTop (entryFrame m #[.ref x, .ref y] 3)) (T11.setTop (mkF m 55 #[.val (.ref x), .val (.ref y), .val (.ref y)] [.int 0])) := c12.trans (by
        refine XS.icmpYes X11.here hexec rfl (pc0 := 33) rfl (hb hbytes d33) rfl (ii_ne_t hcd) (by decide) rfl ?_
        refine iconstV X11.here hexec rfl 0 (hb hbytes d54) (by decide) ?_
        exact Steps.refl _)
      exact ⟨T11, some (.int 0), _, _, _, X11, rfl, rfl, rfl, (fun h => by cases h), ⟨0, rfl, hh11, Or.inr ⟨rfl, Cod.dif hx.2.2.2.2.1 hy.2.2.2.2.1 hcd⟩⟩, fun fs hl => c13.trans (X11.ireturnOut hexec hret rfl (Or.inr (Or.inl rfl)) (hb hbytes d55) hl)⟩
theorem pays {l : Launch} {R : Room} {p : Program} {e : Env} {below : List Frame} {s : State} {sargs : Array Value} {len W : Nat} (x t : Addr) (V : Cell) (cd : Int32) (n : Nat) (f : Nat → Int32) (y t' : Addr) (V' : Cell) (cd' : Int32) (k : Nat) (g : Nat → Int32) (z : Int32) (htab : tab.before sargs s = true) (hfr : 2 ≤ R.frames) (hlo : W + 28 ≤ R.locals) :
    Back l R p e below s sargs yN len W (fun A₁ a₁ => A₁.cells + 0 ≤ R.cells ∧ A₁.slots + 0 ≤ R.slots ∧ P x t V cd n f y t' V' cd' k g z a₁ A₁.U) (fun A₁ _ v₁ B₁ => Says01 (SameT n f k g) v₁ A₁.U B₁.U ∧ B₁.locs = A₁.locs ++ [] ∧ B₁.cells = A₁.cells + 0 ∧ B₁.slots = A₁.slots + 0) :=
  (law l x t V cd n f y t' V' cd' k g z).pays htab hfr (by omega)
end SEq
end StrChars
namespace StrChars.Road
open Jvm Sem ClassFile Op Lib Jvm.Stand Jvm.Free Jvm.Free.XT
open Jvm.Lib.Cold (StaticIs)
/-- the words of String.equals(Object) -/
abbrev wordsEq : List Jvm.Cond := [.code SEq.yN SEq.yB 3 (some .boolean), .initialized ST, .classLink ST 10 ST, .fieldLink ST 38 ST "COMPACT_STRINGS" "Z", .fieldLink ST 15 ST "coder" "B", .fieldLink ST 9 ST "value" "[B", .methodLink ST 541 LEq.yN, .static LEq.yN, .code LEq.yN LEq.yB 3 (some .boolean), .initialized "java/lang/StringLatin1"]
theorem tabEq_of {a : Array Value} {s : State} (h : ∀ w ∈ wordsEq, w.before a s = true) : SEq.tab.before a s = true := by
  have hl : LEq.tab.before a s = true := unparts (wk h (.code LEq.yN LEq.yB 3 (some .boolean))) (wks h (.initialized LEq.yN.cls :: LEq.site))
  have q := consq hl h
  exact unparts (wk q (.code SEq.yN SEq.yB 3 (some .boolean))) (wks q (.initialized SEq.yN.cls :: SEq.site))
theorem movedEq {Z s : State} {a0 args : Array Value} (hZ : Z.Warmed39 s.vm) (hw : ∀ d ∈ wordsEq, d.before a0 Z = true) : ∀ d ∈ wordsEq, d.before args s = true := fun d hd => by
  have t : ∀ d ∈ wordsEq, (d.onTables && d.keepsFace) = true := by decide +kernel
  exact RoadKit.mv hZ (hw d hd) (t d hd)
/-- the road's facts of a String, as the laws ask it -/
theorem txt_of {Z U : State} {a0 : Array Value} {kI : Nat} (wi : (Jvm.Cond.instantiable ST kI).before a0 Z = true) (al : Z.vm.Alike U.vm) {x t : Addr} {kb : ClassId} {cs : List Int32} {cd N2 : Int32} {vs : List Value} (E : RoadKit.Exa Z U.heap x ST) (V : RoadKit.Fld Z U.heap x ST "value" "[B" (.ref t)) (C : RoadKit.Fld Z U.heap x ST "coder" "B" (.int cd)) (K : RoadKit.Arv Z U.heap t kb .byte N2 vs (.int 0)) (hc : CodA cs cd N2 vs) (hb : ∀ c ∈ cs, ¬ c < 0 ∧ ¬ (65535 : Int32) < c) (l2 : cs.length ≤ 4000) :
    ∃ A, Txt x t A cd cs.length (fun j => cs.getD j 0) U := by
  obtain ⟨A, K1, K2, K3, K4, K5, K6⟩ := K
  have hcod := hc.cod (by omega) K3 K5
  obtain ⟨D, fV, fC, hB, F1, F2, g1, g2, -, -⟩ := strObj wi al E V C
  exact ⟨A, ⟨_, hB.2.2.1, D, hB.1, rfl, by cases q : D.vm <;> first | rfl | exact absurd q (hB.2.1.2 _)⟩, Has.of hB F1 g1, Has.of hB F2 g2, ⟨K1.1, State.isArrayOf_alike al K1.2.1, K1.2.2, by rcases hcod with ⟨-, q, -⟩ | ⟨-, q, -⟩ <;> omega⟩, hcod, fun j hj => by
    have e : cs.getD j 0 = cs[j] := by simp [List.getD_eq_getElem?_getD, hj]
    show ¬ cs.getD j 0 < 0 ∧ ¬ 65535 < cs.getD j 0
    rw [e]; exact hb _ (List.getElem_mem _)⟩
theorem same_list (cs ds : List Int32) : SameT cs.length (fun j => cs.getD j 0) ds.length (fun j => ds.getD j 0) ↔ cs = ds := by
  constructor
  · rintro ⟨e, q⟩
    refine List.ext_getElem e fun j h1 h2 => ?_
    have := q j h1
    simpa [List.getD_eq_getElem?_getD, h1, h2] using this
  · rintro rfl
    exact ⟨rfl, fun _ _ => rfl⟩
/-- **equals(Object) OF TWO SUCH STRINGS**: 1 just where the chars are the same -/
theorem eqW {p : Program} {l : Launch} {e : Env} {R : Room} {s : State} {args : Array Value} {below : List Frame} {len W : Nat} {Z : State} {a0 : Array Value} {h : Heap} (hZ : Z.Warmed39 s.vm) (hw : ∀ d ∈ wordsEq, d.before a0 Z = true) {kI : Nat} (wi : (Jvm.Cond.instantiable ST kI).before a0 Z = true)
    {x t : Addr} {kb : ClassId} {cs : List Int32} {cd N2 : Int32} {vs : List Value} (E : RoadKit.Exa Z h x ST) (V : RoadKit.Fld Z h x ST "value" "[B" (.ref t)) (C : RoadKit.Fld Z h x ST "coder" "B" (.int cd)) (K : RoadKit.Arv Z h t kb .byte N2 vs (.int 0)) (hc : CodA cs cd N2 vs) (hb : ∀ c ∈ cs, ¬ c < 0 ∧ ¬ (65535 : Int32) < c) (l2 : cs.length ≤ 4000)
    {y t' : Addr} {kb' : ClassId} {ds : List Int32} {cd' N2' : Int32} {vs' : List Value} (E' : RoadKit.Exa Z h y ST) (V' : RoadKit.Fld Z h y ST "value" "[B" (.ref t')) (C' : RoadKit.Fld Z h y ST "coder" "B" (.int cd')) (K' : RoadKit.Arv Z h t' kb' .byte N2' vs' (.int 0)) (hc' : CodA ds cd' N2' vs') (hb' : ∀ c ∈ ds, ¬ c < 0 ∧ ¬ (65535 : Int32) < c) (l2' : ds.length ≤ 4000)
    {z : Int32} (S : RoadKit.Sta Z h ST "COMPACT_STRINGS" "Z" (.int z)) (hz : ¬ z = 0) (hfr : 2 ≤ R.frames) (hlo : W + 28 ≤ R.locals) :
    Back l R p e below s args (⟨"java/lang/String", "equals", "(Ljava/lang/Object;)Z"⟩ : MethodName) len W (fun P a => a = #[.ref x, .ref y] ∧ P.U.heap = h ∧ P.cells + 0 ≤ R.cells ∧ P.slots + 0 ≤ R.slots)
      (fun P _ v B => ∃ L, (((v = some (.int 1) ∧ cs = ds) ∨ (v = some (.int 0) ∧ ¬ cs = ds)) ∧ L = [] ∧ B.U.heap = h) ∧ B.locs = P.locs ++ L ∧ B.cells = P.cells + 0 ∧ B.slots = P.slots + 0) := by
  intro m meth c P g ig mk a X hg hsize hdg hW hn hp'
  obtain ⟨rfl, rfl, r1, r2⟩ := hp'
  have al : Z.vm.Alike P.U.vm := hZ.alike.trans X.warmed.alike
  obtain ⟨A, hx⟩ := txt_of wi al E V C K hc hb l2
  obtain ⟨A', hy⟩ := txt_of wi al E' V' C' K' hc' hb' l2'
  obtain ⟨v, B, X', ⟨⟨w, hv, hh, hq⟩, hl, hk, hs⟩, st⟩ := SEq.pays x t A cd cs.length (fun j => cs.getD j 0) y t' A' cd' ds.length (fun j => ds.getD j 0) z (tabEq_of (movedEq hZ hw)) hfr hlo m meth c P g ig mk _ X hg hsize hdg hW hn ⟨r1, r2, rfl, hx, hy, sta_is al S, hz⟩
  refine ⟨v, B, X', ⟨[], ⟨?_, rfl, hh⟩, hl, hk, hs⟩, st⟩
  rcases hq with ⟨rfl, q⟩ | ⟨rfl, q⟩
  · exact Or.inl ⟨hv, (same_list cs ds).mp q⟩
  · exact Or.inr ⟨hv, fun e => q ((same_list cs ds).mpr e)⟩
end StrChars.Road
namespace StrChars.Road
open Jvm Sem ClassFile Op Lib Jvm.Stand Jvm.Free Jvm.Free.XT
open Jvm.Lib.Cold (StaticIs)
/-- what backV says of its String, as the contracts of this text ask it: cs's low bytes, coder 0 -/
theorem codOf {cs : List Int32} {n : Nat} (hn : cs.length = n) (hb : ∀ c ∈ cs, ¬ 255 < c) : CodA cs 0 (Int32.ofNat n) ((cs.map lo8).map Value.int) := Or.inl ⟨rfl, by rw [hn], by simp [List.map_map, Function.comp_def], hb⟩
end StrChars.Road
end Jvm.Pilot.@@N@@
namespace Jvm.Pilot.@@N@@
open Jvm Jvm.ClassFile Sem Op Lib Jvm.Free Jvm.Stand Jvm.LawKit Jvm.RoadKit Bundle Jvm.OwnK
/-! Strings whose chars are below 256, own text over the pasted laws -/
def Str (Z : State) (h : Heap) (x : Addr) (cs : List Int32) : Prop :=
  Exa Z h x "java/lang/String" ∧ Fld Z h x "java/lang/String" "coder" "B" (.int 0) ∧ (∃ (b : Addr) (k : ClassId), Fld Z h x "java/lang/String" "value" "[B" (.ref b) ∧ Arv Z h b k .byte (Int32.ofNat cs.length) ((cs.map StrChars.lo8).map Value.int) (.int 0)) ∧ (∀ c ∈ cs, ¬ c < 0 ∧ ¬ (255 : Int32) < c) ∧ cs.length ≤ 4000
section Strs
variable {Z : State} {EL : List (String × Nat)} {nI : Bool} {a0 : Array Value} {l : Launch} {R : Room} {W : List Addr} {h h' : Heap} {Wt : Nat} {x b : Addr} {cs ds : List Int32} {z : Int32}
theorem Str.ext (F : Str Z h x cs) (E : Ext h h') : Str Z h' x cs := by
  obtain ⟨f1, f2, ⟨b, k, f3, f4⟩, f5⟩ := F
  exact ⟨f1.ext E, f2.ext E, ⟨b, k, f3.ext E, f4.ext E⟩, f5⟩
theorem Str.keep1 {a : Addr} {C : String} {n : Nat} (F : Str Z h x cs) (K : Keep h h' [a]) (E : Exa Z h a C) (wi : (Jvm.Cond.instantiable C n).before a0 Z = true) (hC : C ≠ "java/lang/String") : Str Z h' x cs := by
  obtain ⟨f1, f2, ⟨b, k, f3, f4⟩, f5⟩ := F
  have n1 : x ∉ [a] := ninS (f1.ne E (Ne.symm hC)) nin0
  have n2 : b ∉ [a] := ninS (E.neArv f4 wi).symm nin0
  exact ⟨f1.keep K, f2.keep K n1, ⟨b, k, f3.keep K n1, f4.keep K n2⟩, f5⟩
theorem Str.lt (F : Str Z h x cs) : x < h.size := F.1.lt
theorem up255 (hp : ∀ c ∈ cs, ¬ c < 0 ∧ ¬ (255 : Int32) < c) : ∀ c ∈ cs, ¬ c < 0 ∧ ¬ (65535 : Int32) < c := fun c hc => ⟨(hp c hc).1, fun q => (hp c hc).2 (Int32.lt_trans (by decide) q)⟩
theorem cal_len (hln : ∀ d ∈ StrChars.Road.wordsLen, d.before a0 Z = true) (wi : (Jvm.Cond.instantiable "java/lang/String" 4).before a0 Z = true) (F : Str Z h x cs) (O2 : Sta Z Z.heap "java/lang/String" "COMPACT_STRINGS" "Z" (.int z)) (P5 : ¬ z = 0) (hfr : 2 ≤ R.frames) (hlo : Wt + 25 ≤ R.locals) :
    Cal Z EL nI a0 l R ⟨"java/lang/String", "length", "()I"⟩ 3 Wt #[.ref x] h W 0 0 (fun v h' => h' = h ∧ v = some (.int (Int32.ofNat cs.length))) := by
  obtain ⟨f1, f2, ⟨b, k, f3, f4⟩, f5, f6⟩ := F
  exact Cal.of_back (Qz := fun v h' Lo => v = some (.int (Int32.ofNat cs.length)) ∧ Lo = [] ∧ h' = h) (fun p e bl s as hZ hO => StrChars.Road.lenW (W := Wt) hZ hln wi f1 f3 f2 f4 (StrChars.Road.codOf rfl fun c hc => (f5 c hc).2) (up255 f5) (O2.ext hO) P5 f6 hfr hlo)
    (fun v h' Lo q => ⟨⟨q.2.2, q.1⟩, by rw [q.2.1]; exact Fr.nil _, [], by rw [q.2.2]; exact Keep.refl _ _, fun _ q => nomatch q⟩)
theorem cal_eq (heq : ∀ d ∈ StrChars.Road.wordsEq, d.before a0 Z = true) (wi : (Jvm.Cond.instantiable "java/lang/String" 4).before a0 Z = true) {y : Addr} (F : Str Z h x cs) (G : Str Z h y ds) (O2 : Sta Z Z.heap "java/lang/String" "COMPACT_STRINGS" "Z" (.int z)) (P5 : ¬ z = 0) (hfr : 2 ≤ R.frames) (hlo : Wt + 28 ≤ R.locals) :
    Cal Z EL nI a0 l R ⟨"java/lang/String", "equals", "(Ljava/lang/Object;)Z"⟩ 3 Wt #[.ref x, .ref y] h W 0 0 (fun v h' => h' = h ∧ v = some (.int (if cs = ds then 1 else 0))) := by
  obtain ⟨f1, f2, ⟨b, k, f3, f4⟩, f5, f6⟩ := F
  obtain ⟨g1, g2, ⟨b', k', g3, g4⟩, g5, g6⟩ := G
  refine Cal.of_back (Qz := fun v h' Lo => ((v = some (.int 1) ∧ cs = ds) ∨ (v = some (.int 0) ∧ ¬ cs = ds)) ∧ Lo = [] ∧ h' = h) (fun p e bl s as hZ hO => StrChars.Road.eqW (W := Wt) hZ heq wi f1 f3 f2 f4 (StrChars.Road.codOf rfl fun c hc => (f5 c hc).2) (up255 f5) f6 g1 g3 g2 g4 (StrChars.Road.codOf rfl fun c hc => (g5 c hc).2) (up255 g5) g6 (O2.ext hO) P5 hfr hlo)
    (fun v h' Lo q => ⟨⟨q.2.2, ?_⟩, by rw [q.2.1]; exact Fr.nil _, [], by rw [q.2.2]; exact Keep.refl _ _, fun _ q => nomatch q⟩)
  rcases q.1 with ⟨rfl, e⟩ | ⟨rfl, e⟩
  · rw [if_pos e]
  · rw [if_neg e]
/-- new String(char[]), at least one char -/
theorem cal_new1 (hws : ∀ d ∈ StrChars.Road.words, d.before a0 Z = true) (wi : (Jvm.Cond.instantiable "java/lang/String" 4).before a0 Z = true) {v0 c0 d : Value} {kC : ClassId} {N : Int32} (hx0 : Z.heap.size ≤ x) (hm : x ∈ W) (E : Exa Z h x "java/lang/String") (V : Fld Z h x "java/lang/String" "value" "[B" v0) (C : Fld Z h x "java/lang/String" "coder" "B" c0)
    (A : Arv Z h b kC .char N (cs.map Value.int) d) (O2 : Sta Z Z.heap "java/lang/String" "COMPACT_STRINGS" "Z" (.int z)) (P5 : ¬ z = 0) (hN : N = Int32.ofNat cs.length) (l0 : 0 < cs.length) (l2 : cs.length ≤ 4000) (hp : ∀ c ∈ cs, ¬ c < 0 ∧ ¬ (255 : Int32) < c) (hfr : 4 ≤ R.frames) (hlo : Wt + 65 ≤ R.locals) :
    Cal Z EL nI a0 l R ⟨"java/lang/String", "<init>", "([C)V"⟩ 3 Wt #[.ref x, .ref b] h W 1 cs.length (fun v h' => v = none ∧ Str Z h' x cs ∧ Keep h h' [x]) := by
  refine Cal.of_back (Qz := StrChars.Road.QV Z x N (cs.map fun c => c.toInt8.toInt32) h Z.heap.size) (fun p e bl s as hZ hO => StrChars.Road.backV (W := Wt) (n0 := Z.heap.size) hZ hws wi hx0 hO.1 E V C A (O2.ext hO) P5 rfl hN l0 l2 hp rfl hfr hlo) (fun v h' Lo q => ?_)
  obtain ⟨q1, q2, q3, q4, q5, t, kb, -, -, -, q6, q7⟩ := q
  refine ⟨⟨q1, ⟨q4, q5, ⟨t, kb, q6, ?_⟩, hp, l2⟩, q3⟩, q2, [x], q3, fun y hy => ?_⟩
  · rw [hN] at q7; exact q7
  · cases List.mem_singleton.mp hy; exact ⟨hx0, sfW hm⟩
end Strs
end Jvm.Pilot.@@N@@
namespace Jvm.Pilot.@@N@@
open Jvm Jvm.ClassFile Sem Op Lib Jvm.Free Jvm.Stand Jvm.LawKit Jvm.RoadKit Bundle Jvm.OwnK Jvm.Pilot.@@N@@.Jvm.D
open Jvm.Free.Exc (obD msgD thD)
def Env1 (Z : State) (a0 : Array Value) (z0 : Int32) (fm : Value) : Prop := (∀ d ∈ tables_1, d.before a0 Z = true) ∧ EW Z a0 consts_1 ∧ Sta Z Z.heap "java/lang/String" "COMPACT_STRINGS" "Z" (.int z0) ∧ ¬ z0 = 0 ∧ fm = fm
theorem g_lenW {Z : State} {a0 : Array Value} (hw : ∀ d ∈ tables_1, d.before a0 Z = true) : ∀ d ∈ StrChars.Road.wordsLen, d.before a0 Z = true := fun d hd => hw d ((by decide +kernel : ∀ d ∈ StrChars.Road.wordsLen, d ∈ tables_1) d hd)
theorem g_eqW {Z : State} {a0 : Array Value} (hw : ∀ d ∈ tables_1, d.before a0 Z = true) : ∀ d ∈ StrChars.Road.wordsEq, d.before a0 Z = true := fun d hd => hw d ((by decide +kernel : ∀ d ∈ StrChars.Road.wordsEq, d ∈ tables_1) d hd)
theorem g_backV {Z : State} {a0 : Array Value} (hw : ∀ d ∈ tables_1, d.before a0 Z = true) : ∀ d ∈ StrChars.Road.words, d.before a0 Z = true := fun d hd => hw d ((by decide +kernel : ∀ d ∈ StrChars.Road.words, d ∈ tables_1) d hd)
theorem g_wS {Z : State} {a0 : Array Value} (hw : ∀ d ∈ tables_1, d.before a0 Z = true) : ∀ d ∈ Bundle.stringAtoms, d.before a0 Z = true := fun d hd => hw d ((by decide +kernel : ∀ d ∈ Bundle.stringAtoms, d ∈ tables_1) d hd)
theorem pn_str : plainName "java/lang/String" = true := by first | (simp [plainName, overriddenIn]; done) | decide +kernel
theorem pd_s4 : parseMethodDescriptor "([CIILjava/lang/Void;)V" = some ⟨[(.array .char), .int, .int, (.object "java/lang/Void")], none⟩ := by decide +kernel
theorem pd_s1 : parseMethodDescriptor "([C)V" = some ⟨[(.array .char)], none⟩ := by decide +kernel
set_option maxRecDepth 65536 in
set_option maxHeartbeats 40000000 in
theorem c_s4 {l : Launch} {Z : State} {a0 : Array Value} {z0 : Int32} {fm : Value} (G : Env1 Z a0 z0 fm) (x0 b0 : Addr) {kb0 : ClassId} {vs0 : List Value} {d0 : Value} (h : Heap) (hx0 : Z.heap.size ≤ x0) (E : Exa Z h x0 "java/lang/String") {v0 c0 : Value} (V : Fld Z h x0 "java/lang/String" "value" "[B" v0) (C : Fld Z h x0 "java/lang/String" "coder" "B" c0) (A0 : Arv Z h b0 kb0 .char 0 vs0 d0) : Ctr Z consts_1 false l [] (⟨"java/lang/String", "<init>", "([CIILjava/lang/Void;)V"⟩ : MethodName) jdk_42_method_149_code 6 none ({ frames := 1, cells := 4, slots := 8, locals := 12 } : Room) #[(.ref x0), (.ref b0), (.int (0 : Int32)), (.int (0 : Int32)), .null] h [x0] (fun v h' => v = none ∧ Str Z h' x0 [] ∧ Keep h h' [x0]) := by
  obtain ⟨hw, hEL, O2, P5, O4⟩ := id G
  refine Ctr.of_run (a0 := a0) (L0 := #[.val (.ref x0), .val (.ref b0), .val (.int (0 : Int32)), .val (.int (0 : Int32)), .val .null, .unset]) (plainFor_of_name pn_str) hEL (by first | (simp [argsToLocals, Value.category, maxLocals]; done) | rfl) (fun K hK => ?_)
  have wS := g_wS hw
  refine Run.pure hK (seg := [(0, .aload_n 0, 1)]) (by decide +kernel) (pc' := 1) (L' := #[.val (.ref x0), .val (.ref b0), .val (.int (0 : Int32)), .val (.int (0 : Int32)), .val .null, .unset]) (S' := [(.ref x0)]) rfl ?_
  refine Run.initobj hK (index := 1) (hw _ (List.mem_of_getElem? (i := 11) rfl)) (hw _ (List.mem_of_getElem? (i := 12) rfl)) (hw _ (List.mem_of_getElem? (i := 13) rfl)) rfl (by decide +kernel) (by decide) (Wt := 0) (Nat.le_of_ble_eq_true rfl) (by decide) ?_
  refine Run.pure hK (seg := [(4, .iload_n 3, 1)]) (by decide +kernel) (pc' := 5) (L' := #[.val (.ref x0), .val (.ref b0), .val (.int (0 : Int32)), .val (.int (0 : Int32)), .val .null, .unset]) (S' := [(.int (0 : Int32))]) rfl ?_
  refine Run.ifz hK (cd := .ne) (o := 22) (by decide +kernel) (by decide) (pc' := 27) rfl (fun q => by replace q := (h_ne _ _).1 q; exact absurd rfl q) (fun _ => ?_)
  refine Run.pure hK (seg := [(8, .aload_n 0, 1)]) (by decide +kernel) (pc' := 9) (L' := #[.val (.ref x0), .val (.ref b0), .val (.int (0 : Int32)), .val (.int (0 : Int32)), .val .null, .unset]) (S' := [(.ref x0)]) rfl ?_
  refine Run.ldcs hK (index := 7) rfl (text := "") (hw _ (List.mem_of_getElem? (i := 14) rfl)) wS (by decide) (vs := []) (z := (0 : Int32)) (by decide +kernel) (by decide) (by decide +kernel) (by decide +kernel) (n := 0) (by decide) (by decide) (by decide) (by decide) (fun h1 x1 b1 k1 E1 X1 C1 V1 A1 => ?_)
  refine Run.getf hK (index := 9) (host := "") (Or.inl (hw _ (List.mem_of_getElem? (i := 20) rfl))) Via.refl V1 (by decide +kernel) ?_
  refine Run.putf hK (index := 9) (host := "") (Or.inl (hw _ (List.mem_of_getElem? (i := 20) rfl))) Via.refl (V.ext E1) (E.ext E1) (Or.inr ⟨(hw _ (List.mem_of_getElem? (i := 16) rfl)), rfl, rfl⟩) (hw _ (List.mem_of_getElem? (i := 1) rfl)) (ty := (.array .byte)) (by decide) rfl rfl hx0 (sfW (List.mem_singleton.mpr rfl)) (by decide +kernel) (fun h2 W2 => ?_)
  have hsl : Jvm.RoadKit.slotOf Z "java/lang/String" "coder" "B" ≠ Jvm.RoadKit.slotOf Z "java/lang/String" "value" "[B" := slot_ne (Or.inr (hw _ (List.mem_of_getElem? (i := 17) rfl))) (Or.inr (hw _ (List.mem_of_getElem? (i := 16) rfl))) (by decide) (by decide : parseFieldDescriptor "B" = some .byte) (by decide : parseFieldDescriptor "[B" = some (.array .byte))
  have nb1 : x0 ≠ b1 := (E.ext E1).neArv A1 (hw _ (List.mem_of_getElem? (i := 1) rfl))
  have V2 := (V.ext E1).same W2
  have C2 := (C.ext E1).other W2 (Or.inr hsl)
  have X2 := (E.ext E1).wr W2
  have A2 := A1.other W2 nb1.symm
  refine Run.pure hK (seg := [(17, .aload_n 0, 1)]) (by decide +kernel) (pc' := 18) (L' := #[.val (.ref x0), .val (.ref b0), .val (.int (0 : Int32)), .val (.int (0 : Int32)), .val .null, .unset]) (S' := [(.ref x0)]) rfl ?_
  refine Run.ldcs hK (index := 7) rfl (text := "") (hw _ (List.mem_of_getElem? (i := 14) rfl)) wS (by decide) (vs := []) (z := (0 : Int32)) (by decide +kernel) (by decide) (by decide +kernel) (by decide +kernel) (n := 0) (by decide) (by decide) (by decide) (by decide) (fun h3 x3 b3 k3 E3 X3 C3 V3 A3 => ?_)
  refine Run.getf hK (index := 15) (host := "") (Or.inl (hw _ (List.mem_of_getElem? (i := 21) rfl))) Via.refl C3 (by decide +kernel) ?_
  refine Run.putf hK (index := 15) (host := "") (Or.inl (hw _ (List.mem_of_getElem? (i := 21) rfl))) Via.refl (C2.ext E3) (X2.ext E3) (Or.inr ⟨(hw _ (List.mem_of_getElem? (i := 17) rfl)), rfl, rfl⟩) (hw _ (List.mem_of_getElem? (i := 1) rfl)) (ty := .byte) (by decide) rfl rfl hx0 (sfW (List.mem_singleton.mpr rfl)) (by decide +kernel) (fun h4 W4 => ?_)
  have V4 := (V2.ext E3).other W4 (Or.inr hsl.symm)
  have C4 := (C2.ext E3).same W4
  have X4 := (X2.ext E3).wr W4
  have A4 := (A2.ext E3).other W4 nb1.symm
  have K4 : Keep h h4 [x0] := ((((Keep.refl h [x0]).ext E1).wr W2 (Or.inl (List.mem_singleton.mpr rfl))).ext E3).wr W4 (Or.inl (List.mem_singleton.mpr rfl))
  exact Run.retv hK (by decide +kernel) (by decide) (by decide) ⟨rfl, ⟨X4, C4, ⟨b1, k1, V4, A4⟩, (fun _ q => nomatch q), Nat.zero_le _⟩, K4⟩
set_option maxRecDepth 65536 in
set_option maxHeartbeats 40000000 in
theorem c_s1 {l : Launch} {Z : State} {a0 : Array Value} {z0 : Int32} {fm : Value} (G : Env1 Z a0 z0 fm) (x0 b0 : Addr) {kb0 : ClassId} {vs0 : List Value} {d0 : Value} (h : Heap) (hx0 : Z.heap.size ≤ x0) (E : Exa Z h x0 "java/lang/String") {v0 c0 : Value} (V : Fld Z h x0 "java/lang/String" "value" "[B" v0) (C : Fld Z h x0 "java/lang/String" "coder" "B" c0) (A0 : Arv Z h b0 kb0 .char 0 vs0 d0) : Ctr Z consts_1 false l [] (⟨"java/lang/String", "<init>", "([C)V"⟩ : MethodName) jdk_42_method_3_code 2 none ({ frames := 2, cells := 4, slots := 8, locals := 40 } : Room) #[(.ref x0), (.ref b0)] h [x0] (fun v h' => v = none ∧ Str Z h' x0 [] ∧ Keep h h' [x0]) := by
  obtain ⟨hw, hEL, O2, P5, O4⟩ := id G
  refine Ctr.of_run (a0 := a0) (L0 := #[.val (.ref x0), .val (.ref b0)]) (plainFor_of_name pn_str) hEL (by first | (simp [argsToLocals, Value.category, maxLocals]; done) | rfl) (fun K hK => ?_)
  have wS := g_wS hw
  refine Run.pure hK (seg := [(0, .aload_n 0, 1), (1, .aload_n 1, 1), (2, .iconst 0, 1), (3, .aload_n 1, 1)]) (by decide +kernel) (pc' := 4) (L' := #[.val (.ref x0), .val (.ref b0)]) (S' := [(.ref b0), (.int (0 : Int32)), (.ref b0), (.ref x0)]) rfl ?_
  refine Run.alen hK A0 (by decide +kernel) ?_
  refine Run.pure hK (seg := [(5, .aconst_null, 1)]) (by decide +kernel) (pc' := 6) (L' := #[.val (.ref x0), .val (.ref b0)]) (S' := [.null, (.int (0 : Int32)), (.int (0 : Int32)), (.ref b0), (.ref x0)]) rfl ?_
  refine Run.special hK (index := 27) (y := (⟨"java/lang/String", "<init>", "([CIILjava/lang/Void;)V"⟩ : MethodName)) (Wt := 0) (kc := 4) (ks := 8) rfl (hw _ (List.mem_of_getElem? (i := 7) rfl)) (hw _ (List.mem_of_getElem? (i := 8) rfl)) (hw _ (List.mem_of_getElem? (i := 10) rfl)) (by decide) (a := x0) (fun _ q => q) (Ctr.cal (c_s4 G x0 b0 h hx0 E V C A0) (hw _ (List.mem_of_getElem? (i := 10) rfl)) (hw _ (List.mem_of_getElem? (i := 2) rfl)) (by decide) (by decide)) rfl (argsL := [(.ref b0), (.int (0 : Int32)), (.int (0 : Int32)), .null]) (rest := []) (lenOf pd_s4 rfl) rfl (Nat.le_of_ble_eq_true rfl) (by decide +kernel) (by decide) (by decide) (fun v1 h1 q1 n1 => ?_)
  obtain ⟨rfl, q1a, q1b⟩ := q1
  exact Run.retv hK (by decide +kernel) (by decide) (by decide) ⟨rfl, q1a, q1b⟩
theorem cal_newS {l : Launch} {Z : State} {a0 : Array Value} {z0 : Int32} {fm : Value} (G : Env1 Z a0 z0 fm) {R : Room} {W : List Addr} {h : Heap} {Wt : Nat} {x0 b0 : Addr} {cs : List Int32} {v0 c0 d0 : Value} {kC : ClassId} {N : Int32} (hx0 : Z.heap.size ≤ x0) (hm : x0 ∈ W) (E : Exa Z h x0 "java/lang/String") (V : Fld Z h x0 "java/lang/String" "value" "[B" v0) (C : Fld Z h x0 "java/lang/String" "coder" "B" c0)
    (A : Arv Z h b0 kC .char N (cs.map Value.int) d0) (hN : N = Int32.ofNat cs.length) (l2 : cs.length ≤ 4000) (hp : ∀ c ∈ cs, ¬ c < 0 ∧ ¬ (255 : Int32) < c) (hfr : 4 ≤ R.frames) (hlo : Wt + 65 ≤ R.locals) {kc ks : Nat} (h1 : 4 ≤ kc) (h2 : 8 ≤ ks) (h3 : cs.length ≤ ks) :
    Cal Z consts_1 false a0 l R ⟨"java/lang/String", "<init>", "([C)V"⟩ 3 Wt #[.ref x0, .ref b0] h W kc ks (fun v h' => v = none ∧ Str Z h' x0 cs ∧ Keep h h' [x0]) := by
  obtain ⟨hw, hEL, O2, P5, O4⟩ := id G
  cases cs with
  | nil =>
    subst hN
    exact Cal.conseq (Cal.more (Ctr.cal (c_s1 G x0 b0 h hx0 E V C A) (hw _ (List.mem_of_getElem? (i := 6) rfl)) (hw _ (List.mem_of_getElem? (i := 2) rfl)) (by show 3 ≤ _; omega) (by show Wt + (2 + 11) + 40 ≤ _; omega)) h1 h2) (fun x hx => by cases List.mem_singleton.mp hx; exact hm) (fun _ _ q => q)
  | cons c1 cs =>
    exact Cal.more (cal_new1 (g_backV hw) (hw _ (List.mem_of_getElem? (i := 1) rfl)) hx0 hm E V C A O2 P5 hN (Nat.succ_pos _) l2 hp hfr hlo) (by omega) h3
theorem pn_law : plainName "com/example/forehall/forehall/PathTemplateNotRootedPinLaw" = true := by first | (simp [plainName, overriddenIn]; done) | decide +kernel
theorem pn_pt : plainName "com/example/forehall/forehall/PathTemplate" = true := by first | (simp [plainName, overriddenIn]; done) | decide +kernel
theorem pn_th : plainName "java/lang/Throwable" = true := by first | (simp [plainName, overriddenIn]; done) | decide +kernel
theorem pd_v : parseMethodDescriptor "()V" = some ⟨[], none⟩ := by decide +kernel
theorem pd_asb : parseMethodDescriptor "(I)V" = some ⟨[.int], none⟩ := by decide +kernel
theorem pd_cod : parseMethodDescriptor "()B" = some ⟨[], some .byte⟩ := by decide +kernel
theorem pd_inf : parseMethodDescriptor "(Ljava/lang/String;)V" = some ⟨[(.object "java/lang/String")], none⟩ := by decide +kernel
theorem pd_gb : parseMethodDescriptor "([BIB)V" = some ⟨[(.array .byte), .int, .byte], none⟩ := by decide +kernel
theorem pd_put : parseMethodDescriptor "(ILjava/lang/String;)V" = some ⟨[.int, (.object "java/lang/String")], none⟩ := by decide +kernel
theorem pd_aap : parseMethodDescriptor "(Ljava/lang/String;)Ljava/lang/AbstractStringBuilder;" = some ⟨[(.object "java/lang/String")], some (.object "java/lang/AbstractStringBuilder")⟩ := by decide +kernel
theorem pd_sap : parseMethodDescriptor "(Ljava/lang/String;)Ljava/lang/StringBuilder;" = some ⟨[(.object "java/lang/String")], some (.object "java/lang/StringBuilder")⟩ := by decide +kernel
theorem pd_gv : parseMethodDescriptor "()[B" = some ⟨[], some (.array .byte)⟩ := by decide +kernel
theorem pd_len : parseMethodDescriptor "()I" = some ⟨[], some .int⟩ := by decide +kernel
theorem pd_z : parseMethodDescriptor "()Z" = some ⟨[], some .boolean⟩ := by decide +kernel
theorem pd_ck : parseMethodDescriptor "(II)V" = some ⟨[.int, .int], none⟩ := by decide +kernel
theorem pd_min : parseMethodDescriptor "(II)I" = some ⟨[.int, .int], some .int⟩ := by decide +kernel
theorem pd_cor : parseMethodDescriptor "([BII)[B" = some ⟨[(.array .byte), .int, .int], some (.array .byte)⟩ := by decide +kernel
theorem pd_sv : parseMethodDescriptor "(Ljava/lang/AbstractStringBuilder;Ljava/lang/Void;)V" = some ⟨[(.object "java/lang/AbstractStringBuilder"), (.object "java/lang/Void")], none⟩ := by decide +kernel
theorem pd_sb1 : parseMethodDescriptor "(Ljava/lang/StringBuilder;)V" = some ⟨[(.object "java/lang/StringBuilder")], none⟩ := by decide +kernel
theorem pd_ts : parseMethodDescriptor "()Ljava/lang/String;" = some ⟨[], some (.object "java/lang/String")⟩ := by decide +kernel
theorem pn_asb : plainName "java/lang/AbstractStringBuilder" = true := by first | (simp [plainName, overriddenIn]; done) | decide +kernel
theorem pn_sb : plainName "java/lang/StringBuilder" = true := by first | (simp [plainName, overriddenIn]; done) | decide +kernel
theorem pn_ar : plainName "java/util/Arrays" = true := by first | (simp [plainName, overriddenIn]; done) | decide +kernel
def SBo (Z : State) (h : Heap) (b va : Addr) (k : ClassId) (cap : Nat) (cs : List Int32) : Prop :=
  Exa Z h b "java/lang/StringBuilder" ∧ Fld Z h b "java/lang/AbstractStringBuilder" "value" "[B" (.ref va) ∧ Fld Z h b "java/lang/AbstractStringBuilder" "coder" "B" (.int 0) ∧ Fld Z h b "java/lang/AbstractStringBuilder" "count" "I" (.int (Int32.ofNat cs.length)) ∧ Arv Z h va k .byte (Int32.ofNat cap) ((cs.map StrChars.lo8).map Value.int) (.int 0) ∧ Z.heap.size ≤ b ∧ Z.heap.size ≤ va ∧ cs.length ≤ cap ∧ cap ≤ 4000 ∧ (∀ c ∈ cs, ¬ c < 0 ∧ ¬ (255 : Int32) < c)
theorem SBo.ext {Z : State} {h h' : Heap} {b va : Addr} {k : ClassId} {cap : Nat} {cs : List Int32} (F : SBo Z h b va k cap cs) (E : Ext h h') : SBo Z h' b va k cap cs := by
  obtain ⟨f1, f2, f3, f4, f5, r⟩ := F
  exact ⟨f1.ext E, f2.ext E, f3.ext E, f4.ext E, f5.ext E, r⟩
theorem lens (cs : List Int32) : ((cs.map StrChars.lo8).map Value.int).length = cs.length := by simp
theorem pd_nr : parseMethodDescriptor "(Ljava/lang/String;Ljava/lang/String;)Lcom/example/forehall/forehall/StartupException;" = some ⟨[(.object "java/lang/String"), (.object "java/lang/String")], some (.object "com/example/forehall/forehall/StartupException")⟩ := by decide +kernel
theorem pd_eq : parseMethodDescriptor "(Ljava/lang/Object;)Z" = some ⟨[(.object "java/lang/Object")], some .boolean⟩ := by decide +kernel
def Cn (g a b : Int32) : List Int32 := if g = 0 then [] else [a, b]
theorem Cn0 {g a b : Int32} (h : g = 0) : Cn g a b = [] := if_pos h
theorem Cn1 {g a b : Int32} (h : ¬ g = 0) : Cn g a b = [a, b] := if_neg h
theorem Cn_le (g a b : Int32) : (Cn g a b).length ≤ 2 := by unfold Cn; split <;> simp
theorem g_thr {Z : State} {a0 : Array Value} (hw : ∀ d ∈ tables_1, d.before a0 Z = true) : ∀ d ∈ thrW "com/example/forehall/forehall/StartupException", d.before a0 Z = true := fun d hd => hw d ((by decide +kernel : ∀ d ∈ thrW "com/example/forehall/forehall/StartupException", d ∈ tables_1) d hd)
set_option maxRecDepth 65536 in
set_option maxHeartbeats 40000000 in
theorem c_asb {l : Launch} {Z : State} {a0 : Array Value} {z0 : Int32} {fm : Value} (G : Env1 Z a0 z0 fm) (x0 : Addr) (h : Heap) (hx0 : Z.heap.size ≤ x0) (X : Exa Z h x0 "java/lang/StringBuilder") {u1 u2 : Value} (Fs : Fld Z h x0 "java/lang/AbstractStringBuilder" "value" "[B" u1 ∧ Fld Z h x0 "java/lang/AbstractStringBuilder" "coder" "B" u2 ∧ Fld Z h x0 "java/lang/AbstractStringBuilder" "count" "I" (.int 0)) : Ctr Z consts_1 true l [] (⟨"java/lang/AbstractStringBuilder", "<init>", "(I)V"⟩ : MethodName) jdk_68_method_2_code 2 none ({ frames := 1, cells := 1, slots := 16, locals := 12 } : Room) #[(.ref x0), (.int (16 : Int32))] h [] (fun v h' => v = none ∧ ∃ va k, SBo Z h' x0 va k 16 [] ∧ h.size ≤ va ∧ va < h'.size ∧ Keep h h' [x0]) := by
  obtain ⟨hw, hEL, O2, P5, O4⟩ := id G
  refine Ctr.of_run (a0 := a0) (L0 := #[.val (.ref x0), .val (.int (16 : Int32))]) (plainFor_of_name pn_asb) hEL (by first | (simp [argsToLocals, Value.category, maxLocals]; done) | rfl) (fun K hK => ?_)
  obtain ⟨Fv, Fc, Fn⟩ := Fs
  have x0lt := X.lt
  refine Run.old (fun hO => ?_)
  refine Run.pure hK (seg := [(0, .aload_n 0, 1)]) (by decide +kernel) (pc' := 1) (L' := #[.val (.ref x0), .val (.int (16 : Int32))]) (S' := [(.ref x0)]) rfl ?_
  refine Run.initobj hK (index := 3) (hw _ (List.mem_of_getElem? (i := 52) rfl)) (hw _ (List.mem_of_getElem? (i := 12) rfl)) (hw _ (List.mem_of_getElem? (i := 13) rfl)) rfl (by decide +kernel) (by decide) (Wt := 0) (Nat.le_of_ble_eq_true rfl) (by decide) ?_
  refine Run.gets hK (index := 18) (hw _ (List.mem_of_getElem? (i := 53) rfl)) Via.refl (O2.ext hO) (by decide +kernel) ?_
  refine Run.ifz hK (cd := .eq) (o := 18) (by decide +kernel) (by decide) (pc' := 25) rfl (fun q => by replace q := (h_eq _ _).1 q; exact absurd q P5) (fun _ => ?_)
  refine Run.pure hK (seg := [(10, .aload_n 0, 1), (11, .iload_n 1, 1)]) (by decide +kernel) (pc' := 12) (L' := #[.val (.ref x0), .val (.int (16 : Int32))]) (S' := [(.int (16 : Int32)), (.ref x0)]) rfl ?_
  refine Run.newarr hK (aty := .byte) (hw _ (List.mem_of_getElem? (i := 15) rfl)) (by decide +kernel) (by decide) (cap := 16) (by decide) (by decide) (by decide) (by decide) (fun hr kr Er Ar => ?_)
  obtain ⟨ar, zr⟩ : ∃ z, z = h.size := ⟨_, rfl⟩
  rw [← zr]
  rw [← zr] at Ar
  have nr : ar ≠ x0 := fun z => absurd x0lt (by rw [← z, zr]; exact Nat.lt_irrefl _)
  replace Fv := Fv.ext Er
  replace Fc := Fc.ext Er
  replace Fn := Fn.ext Er
  replace X := X.ext Er
  refine Run.putf hK (index := 15) (host := "") (Or.inl (hw _ (List.mem_of_getElem? (i := 54) rfl))) Via.refl Fv X (Or.inl (hw _ (List.mem_of_getElem? (i := 55) rfl))) (hw _ (List.mem_of_getElem? (i := 41) rfl)) (ty := (.array .byte)) (by decide) rfl rfl hx0 (sfE X (by decide) (by decide)) (by decide +kernel) (fun h1 W1 => ?_)
  replace Fv := Fv.same W1
  replace Fc := Fc.other W1 (Or.inr (slot_ne (Or.inl (hw _ (List.mem_of_getElem? (i := 57) rfl))) (Or.inl (hw _ (List.mem_of_getElem? (i := 55) rfl))) (by decide) (by decide : parseFieldDescriptor "B" = some .byte) (by decide : parseFieldDescriptor "[B" = some (.array .byte))))
  replace Fn := Fn.other W1 (Or.inr (slot_ne (Or.inl (hw _ (List.mem_of_getElem? (i := 79) rfl))) (Or.inl (hw _ (List.mem_of_getElem? (i := 55) rfl))) (by decide) (by decide : parseFieldDescriptor "I" = some .int) (by decide : parseFieldDescriptor "[B" = some (.array .byte))))
  replace X := X.wr W1
  replace Ar := Ar.other W1 nr
  refine Run.pure hK (seg := [(17, .aload_n 0, 1), (18, .iconst 0, 1)]) (by decide +kernel) (pc' := 19) (L' := #[.val (.ref x0), .val (.int (16 : Int32))]) (S' := [(.int (0 : Int32)), (.ref x0)]) rfl ?_
  refine Run.putf hK (index := 22) (host := "") (Or.inl (hw _ (List.mem_of_getElem? (i := 56) rfl))) Via.refl Fc X (Or.inl (hw _ (List.mem_of_getElem? (i := 57) rfl))) (hw _ (List.mem_of_getElem? (i := 41) rfl)) (ty := .byte) (by decide) rfl rfl hx0 (sfE X (by decide) (by decide)) (by decide +kernel) (fun h2 W2 => ?_)
  replace Fv := Fv.other W2 (Or.inr (slot_ne (Or.inl (hw _ (List.mem_of_getElem? (i := 55) rfl))) (Or.inl (hw _ (List.mem_of_getElem? (i := 57) rfl))) (by decide) (by decide : parseFieldDescriptor "[B" = some (.array .byte)) (by decide : parseFieldDescriptor "B" = some .byte)))
  replace Fc := Fc.same W2
  replace Fn := Fn.other W2 (Or.inr (slot_ne (Or.inl (hw _ (List.mem_of_getElem? (i := 79) rfl))) (Or.inl (hw _ (List.mem_of_getElem? (i := 57) rfl))) (by decide) (by decide : parseFieldDescriptor "I" = some .int) (by decide : parseFieldDescriptor "B" = some .byte)))
  replace X := X.wr W2
  replace Ar := Ar.other W2 nr
  refine Run.pure hK (seg := [(22, .goto 16, 3)]) (by decide +kernel) (pc' := 38) (L' := #[.val (.ref x0), .val (.int (16 : Int32))]) (S' := []) rfl ?_
  exact Run.retv hK (by decide +kernel) (by decide) (by decide) ⟨rfl, ar, kr, ⟨X, Fv, Fc, Fn, Ar, hx0, (by rw [zr]; exact hO.1), Nat.zero_le _, by decide, (fun _ q => nomatch q)⟩, (by rw [zr]; exact Nat.le_refl _), Ar.lt, (((Keep.refl _ [x0]).ext Er).wr W1 (Or.inl (List.mem_singleton.mpr rfl))).wr W2 (Or.inl (List.mem_singleton.mpr rfl))⟩
set_option maxRecDepth 65536 in
set_option maxHeartbeats 40000000 in
theorem c_sbi {l : Launch} {Z : State} {a0 : Array Value} {z0 : Int32} {fm : Value} (G : Env1 Z a0 z0 fm) (x0 : Addr) (h : Heap) (hx0 : Z.heap.size ≤ x0) (X : Exa Z h x0 "java/lang/StringBuilder") {u1 u2 : Value} (Fs : Fld Z h x0 "java/lang/AbstractStringBuilder" "value" "[B" u1 ∧ Fld Z h x0 "java/lang/AbstractStringBuilder" "coder" "B" u2 ∧ Fld Z h x0 "java/lang/AbstractStringBuilder" "count" "I" (.int 0)) : Ctr Z consts_1 true l [] (⟨"java/lang/StringBuilder", "<init>", "()V"⟩ : MethodName) jdk_67_method_1_code 1 none ({ frames := 2, cells := 1, slots := 16, locals := 28 } : Room) #[(.ref x0)] h [] (fun v h' => v = none ∧ ∃ va k, SBo Z h' x0 va k 16 [] ∧ h.size ≤ va ∧ va < h'.size ∧ Keep h h' [x0]) := by
  obtain ⟨hw, hEL, O2, P5, O4⟩ := id G
  refine Ctr.of_run (a0 := a0) (L0 := #[.val (.ref x0)]) (plainFor_of_name pn_sb) hEL (by first | (simp [argsToLocals, Value.category, maxLocals]; done) | rfl) (fun K hK => ?_)
  refine Run.pure hK (seg := [(0, .aload_n 0, 1), (1, .bipush 16, 2)]) (by decide +kernel) (pc' := 3) (L' := #[.val (.ref x0)]) (S' := [(.int (16 : Int32)), (.ref x0)]) rfl ?_
  refine Run.special hK (index := 1) (y := (⟨"java/lang/AbstractStringBuilder", "<init>", "(I)V"⟩ : MethodName)) (Wt := 0) (kc := 1) (ks := 16) rfl (hw _ (List.mem_of_getElem? (i := 46) rfl)) (hw _ (List.mem_of_getElem? (i := 47) rfl)) (hw _ (List.mem_of_getElem? (i := 51) rfl)) (by decide) (a := x0) (W' := []) (fun _ q => nomatch q) (Ctr.cal (c_asb G x0 h hx0 X Fs) (hw _ (List.mem_of_getElem? (i := 51) rfl)) (hw _ (List.mem_of_getElem? (i := 50) rfl)) (by decide) (by decide)) rfl (argsL := [(.int (16 : Int32))]) (rest := []) (lenOf pd_asb rfl) rfl (Nat.le_of_ble_eq_true rfl) (by decide +kernel) (by decide) (by decide) (fun v1 h1 q1 n1 => ?_)
  obtain ⟨rfl, q⟩ := q1
  exact Run.retv hK (by decide +kernel) (by decide) (by decide) ⟨rfl, q⟩
set_option maxRecDepth 65536 in
set_option maxHeartbeats 40000000 in
theorem c_cod {l : Launch} {Z : State} {a0 : Array Value} {z0 : Int32} {fm : Value} (G : Env1 Z a0 z0 fm) (x : Addr) {cs : List Int32} (h : Heap) (F : Str Z h x cs) : Ctr Z consts_1 true l [] (⟨"java/lang/String", "coder", "()B"⟩ : MethodName) jdk_42_method_152_code 1 (some .byte) ({ frames := 0, cells := 0, slots := 0, locals := 0 } : Room) #[(.ref x)] h [] (fun v h' => h' = h ∧ v = some (.int 0)) := by
  obtain ⟨hw, hEL, O2, P5, O4⟩ := id G
  refine Ctr.of_run (a0 := a0) (L0 := #[.val (.ref x)]) (plainFor_of_name pn_str) hEL (by first | (simp [argsToLocals, Value.category, maxLocals]; done) | rfl) (fun K hK => ?_)
  obtain ⟨f1, f2, -⟩ := F
  refine Run.old (fun hO => ?_)
  refine Run.gets hK (index := 38) (hw _ (List.mem_of_getElem? (i := 22) rfl)) Via.refl (O2.ext hO) (by decide +kernel) ?_
  refine Run.ifz hK (cd := .eq) (o := 10) (by decide +kernel) (by decide) (pc' := 13) rfl (fun q => by replace q := (h_eq _ _).1 q; exact absurd q P5) (fun _ => ?_)
  refine Run.pure hK (seg := [(6, .aload_n 0, 1)]) (by decide +kernel) (pc' := 7) (L' := #[.val (.ref x)]) (S' := [(.ref x)]) rfl ?_
  refine Run.getf hK (index := 15) (host := "") (Or.inl (hw _ (List.mem_of_getElem? (i := 21) rfl))) Via.refl f2 (by decide +kernel) ?_
  refine Run.pure hK (seg := [(10, .goto 4, 3)]) (by decide +kernel) (pc' := 14) (L' := #[.val (.ref x)]) (S' := [(.int (0 : Int32))]) rfl ?_
  exact Run.retw hK (i := .ireturn) rfl (Or.inl ⟨rfl, Or.inr (Or.inr (Or.inl rfl)), _, rfl⟩) (by decide +kernel) (by decide) (by decide) ⟨rfl, rfl⟩
set_option maxRecDepth 65536 in
set_option maxHeartbeats 40000000 in
theorem c_inf {l : Launch} {Z : State} {a0 : Array Value} {z0 : Int32} {fm : Value} (G : Env1 Z a0 z0 fm) (x0 x va : Addr) {cs ds : List Int32} {k : ClassId} {cap : Nat} (h : Heap) (Sb : SBo Z h x0 va k cap ds) (F : Str Z h x cs) : Ctr Z consts_1 true l [] (⟨"java/lang/AbstractStringBuilder", "inflateIfNeededFor", "(Ljava/lang/String;)V"⟩ : MethodName) jdk_68_method_71_code 2 none ({ frames := 1, cells := 0, slots := 0, locals := 16 } : Room) #[(.ref x0), (.ref x)] h [] (fun v h' => h' = h ∧ v = none) := by
  obtain ⟨hw, hEL, O2, P5, O4⟩ := id G
  refine Ctr.of_run (a0 := a0) (L0 := #[.val (.ref x0), .val (.ref x)]) (plainFor_of_name pn_asb) hEL (by first | (simp [argsToLocals, Value.category, maxLocals]; done) | rfl) (fun K hK => ?_)
  obtain ⟨X, Fv, Fc, Fn, Av, -⟩ := Sb
  refine Run.old (fun hO => ?_)
  refine Run.gets hK (index := 18) (hw _ (List.mem_of_getElem? (i := 53) rfl)) Via.refl (O2.ext hO) (by decide +kernel) ?_
  refine Run.ifz hK (cd := .eq) (o := 18) (by decide +kernel) (by decide) (pc' := 21) rfl (fun q => by replace q := (h_eq _ _).1 q; exact absurd q P5) (fun _ => ?_)
  refine Run.pure hK (seg := [(6, .aload_n 0, 1)]) (by decide +kernel) (pc' := 7) (L' := #[.val (.ref x0), .val (.ref x)]) (S' := [(.ref x0)]) rfl ?_
  refine Run.getf hK (index := 22) (host := "") (Or.inl (hw _ (List.mem_of_getElem? (i := 56) rfl))) Via.refl Fc (by decide +kernel) ?_
  refine Run.pure hK (seg := [(10, .aload_n 1, 1)]) (by decide +kernel) (pc' := 11) (L' := #[.val (.ref x0), .val (.ref x)]) (S' := [(.ref x), (.int (0 : Int32))]) rfl ?_
  refine Run.virtual hK (index := 40) (y := (⟨"java/lang/String", "coder", "()B"⟩ : MethodName)) (z := (⟨"java/lang/String", "coder", "()B"⟩ : MethodName)) (C := "java/lang/String") (Wt := 1) (kc := 0) (ks := 0) (hw _ (List.mem_of_getElem? (i := 95) rfl)) (hw _ (List.mem_of_getElem? (i := 74) rfl)) (nfS (hw _ (List.mem_of_getElem? (i := 76) rfl))) (hw _ (List.mem_of_getElem? (i := 76) rfl)) (hw _ (List.mem_of_getElem? (i := 75) rfl)) (by decide) (a := x) F.1 (W' := []) (fun _ q => nomatch q) (Ctr.cal (c_cod G x h F) (hw _ (List.mem_of_getElem? (i := 77) rfl)) (hw _ (List.mem_of_getElem? (i := 2) rfl)) (by decide) (by decide)) rfl (argsL := []) (rest := [(.int (0 : Int32))]) (lenOf pd_cod rfl) rfl (Nat.le_of_ble_eq_true rfl) (by decide +kernel) (by decide) (by decide) (fun v1 h1 q1 n1 => ?_)
  obtain ⟨rfl, rfl⟩ := q1
  refine Run.icmp hK (cd := .eq) (o := 7) (by decide +kernel) (by decide) (pc' := 21) rfl (fun _ => ?_) (fun q => by replace q := (h_eq _ _).2 q; exact absurd rfl q)
  exact Run.retv hK (by decide +kernel) (by decide) (by decide) ⟨rfl, rfl⟩
set_option maxRecDepth 65536 in
set_option maxHeartbeats 40000000 in
theorem c_gb {l : Launch} {Z : State} {a0 : Array Value} {z0 : Int32} {fm : Value} (G : Env1 Z a0 z0 fm) (x va : Addr) {cs ds : List Int32} {k : ClassId} {cap : Nat} (h : Heap) (F : Str Z h x cs) (A : Arv Z h va k .byte (Int32.ofNat cap) ((ds.map StrChars.lo8).map Value.int) (.int 0)) (ge : Z.heap.size ≤ va) (hc : ds.length + cs.length ≤ cap) (hcap : cap ≤ 4000) : Ctr Z consts_1 true l [] (⟨"java/lang/String", "getBytes", "([BIB)V"⟩ : MethodName) jdk_42_method_147_code 4 none ({ frames := 1, cells := 0, slots := 0, locals := 24 } : Room) #[(.ref x), (.ref va), (.int (Int32.ofNat ds.length)), (.int (0 : Int32))] h [va] (fun v h' => v = none ∧ Arv Z h' va k .byte (Int32.ofNat cap) (((ds ++ cs).map StrChars.lo8).map Value.int) (.int 0) ∧ Keep h h' [va]) := by
  obtain ⟨hw, hEL, O2, P5, O4⟩ := id G
  refine Ctr.of_run (a0 := a0) (L0 := #[.val (.ref x), .val (.ref va), .val (.int (Int32.ofNat ds.length)), .val (.int (0 : Int32))]) (plainFor_of_name pn_str) hEL (by first | (simp [argsToLocals, Value.category, maxLocals]; done) | rfl) (fun K hK => ?_)
  refine Run.pure hK (seg := [(0, .aload_n 0, 1)]) (by decide +kernel) (pc' := 1) (L' := #[.val (.ref x), .val (.ref va), .val (.int (Int32.ofNat ds.length)), .val (.int (0 : Int32))]) (S' := [(.ref x)]) rfl ?_
  refine Run.virtual hK (index := 335) (y := (⟨"java/lang/String", "coder", "()B"⟩ : MethodName)) (z := (⟨"java/lang/String", "coder", "()B"⟩ : MethodName)) (C := "java/lang/String") (Wt := 0) (kc := 0) (ks := 0) (hw _ (List.mem_of_getElem? (i := 73) rfl)) (hw _ (List.mem_of_getElem? (i := 74) rfl)) (nfS (hw _ (List.mem_of_getElem? (i := 76) rfl))) (hw _ (List.mem_of_getElem? (i := 76) rfl)) (hw _ (List.mem_of_getElem? (i := 75) rfl)) (by decide) (a := x) F.1 (W' := []) (fun _ q => nomatch q) (Ctr.cal (c_cod G x h F) (hw _ (List.mem_of_getElem? (i := 77) rfl)) (hw _ (List.mem_of_getElem? (i := 2) rfl)) (by decide) (by decide)) rfl (argsL := []) (rest := []) (lenOf pd_cod rfl) rfl (Nat.le_of_ble_eq_true rfl) (by decide +kernel) (by decide) (by decide) (fun v1 h1 q1 n1 => ?_)
  obtain ⟨rfl, rfl⟩ := q1
  obtain ⟨f1, f2, ⟨b, kb, f3, f4⟩, f5, f6⟩ := F
  refine Run.pure hK (seg := [(4, .iload_n 3, 1)]) (by decide +kernel) (pc' := 5) (L' := #[.val (.ref x), .val (.ref va), .val (.int (Int32.ofNat ds.length)), .val (.int (0 : Int32))]) (S' := [(.int (0 : Int32)), (.int (0 : Int32))]) rfl ?_
  refine Run.icmp hK (cd := .ne) (o := 23) (by decide +kernel) (by decide) (pc' := 28) rfl (fun q => by replace q := (h_ne _ _).1 q; exact absurd rfl q) (fun _ => ?_)
  refine Run.pure hK (seg := [(8, .aload_n 0, 1)]) (by decide +kernel) (pc' := 9) (L' := #[.val (.ref x), .val (.ref va), .val (.int (Int32.ofNat ds.length)), .val (.int (0 : Int32))]) (S' := [(.ref x)]) rfl ?_
  refine Run.getf hK (index := 9) (host := "") (Or.inl (hw _ (List.mem_of_getElem? (i := 20) rfl))) Via.refl f3 (by decide +kernel) ?_
  refine Run.pure hK (seg := [(12, .iconst 0, 1), (13, .aload_n 1, 1), (14, .iload_n 2, 1), (15, .iload_n 3, 1), (16, .ishl, 1)]) (by decide +kernel) (pc' := 17) (L' := #[.val (.ref x), .val (.ref va), .val (.int (Int32.ofNat ds.length)), .val (.int (0 : Int32))]) (S' := [(.int ((Int32.ofNat ds.length) <<< ((0 : Int32) &&& 31))), (.ref va), (.int (0 : Int32)), (.ref b)]) rfl ?_
  rw [shl0]
  refine Run.pure hK (seg := [(17, .aload_n 0, 1)]) (by decide +kernel) (pc' := 18) (L' := #[.val (.ref x), .val (.ref va), .val (.int (Int32.ofNat ds.length)), .val (.int (0 : Int32))]) (S' := [(.ref x), (.int (Int32.ofNat ds.length)), (.ref va), (.int (0 : Int32)), (.ref b)]) rfl ?_
  refine Run.getf hK (index := 9) (host := "") (Or.inl (hw _ (List.mem_of_getElem? (i := 20) rfl))) Via.refl f3 (by decide +kernel) ?_
  refine Run.alen hK f4 (by decide +kernel) ?_
  have P := A.pad (pad_rep ((ds.map StrChars.lo8).map Value.int) (Value.int 0) (cap - ((ds.map StrChars.lo8).map Value.int).length))
  have lP : (((ds.map StrChars.lo8).map Value.int) ++ List.replicate (cap - ((ds.map StrChars.lo8).map Value.int).length) (Value.int 0)).length = cap := by simp only [List.length_append, List.length_map, List.length_replicate]; omega
  refine Run.cpy hK (index := 212) (hw _ (List.mem_of_getElem? (i := 101) rfl)) (hw _ (List.mem_of_getElem? (i := 104) rfl)) (hw _ (List.mem_of_getElem? (i := 102) rfl)) (hw _ (List.mem_of_getElem? (i := 103) rfl)) f4 P rfl (by decide) (ofN_nn (by omega)) (ofN_nn (by omega)) (by show 0 + _ ≤ _; omega) (by rw [ofN_nat (by omega), ofN_nat (by omega), ofN_nat (by omega)]; omega) (us := (List.range cs.length).map fun i => ((cs.map StrChars.lo8).map Value.int).getD (0 + i) (.int 0)) (by rw [ofN_nat (by omega)]; rfl) (by rw [ofN_nat (by omega), ofN_nat (by omega), lP]; omega) ge (sfW (List.mem_singleton.mpr rfl)) rfl (by decide +kernel) (by decide) (Wt := 0) (Nat.le_of_ble_eq_true rfl) (by decide) (fun h2 K2 B2 => ?_)
  rw [ofN_nat (by omega : ds.length ≤ 4000), ofN_nat (by omega : cs.length ≤ 4000)] at B2
  have Af : Arv Z h2 va k .byte (Int32.ofNat cap) (((ds ++ cs).map StrChars.lo8).map Value.int) (.int 0) := by
    rw [List.map_append, List.map_append]
    refine B2.pad (fun i => ?_)
    have q := app_pad (vs := ((ds.map StrChars.lo8).map Value.int)) (us := ((cs.map StrChars.lo8).map Value.int)) (n := cap) (.int 0) (by rw [lens, lens]; omega) i
    rw [lens cs] at q; simp only [lens ds] at q ⊢; exact q
  refine Run.pure hK (seg := [(25, .goto 18, 3)]) (by decide +kernel) (pc' := 43) (L' := #[.val (.ref x), .val (.ref va), .val (.int (Int32.ofNat ds.length)), .val (.int (0 : Int32))]) (S' := []) rfl ?_
  exact Run.retv hK (by decide +kernel) (by decide) (by decide) ⟨rfl, Af, K2⟩
set_option maxRecDepth 65536 in
set_option maxHeartbeats 40000000 in
theorem c_ens {l : Launch} {Z : State} {a0 : Array Value} {z0 : Int32} {fm : Value} (G : Env1 Z a0 z0 fm) (x0 va : Addr) (m : Nat) {ds : List Int32} {k : ClassId} {cap : Nat} (h : Heap) (Sb : SBo Z h x0 va k cap ds) (hm : m ≤ cap) : Ctr Z consts_1 true l [] (⟨"java/lang/AbstractStringBuilder", "ensureCapacityInternal", "(I)V"⟩ : MethodName) jdk_68_method_9_code 3 none ({ frames := 0, cells := 0, slots := 0, locals := 0 } : Room) #[(.ref x0), (.int (Int32.ofNat m))] h [] (fun v h' => h' = h ∧ v = none) := by
  obtain ⟨hw, hEL, O2, P5, O4⟩ := id G
  refine Ctr.of_run (a0 := a0) (L0 := #[.val (.ref x0), .val (.int (Int32.ofNat m)), .unset]) (plainFor_of_name pn_asb) hEL (by first | (simp [argsToLocals, Value.category, maxLocals]; done) | rfl) (fun K hK => ?_)
  obtain ⟨X, Fv, Fc, Fn, Av, -, -, -, hcap, -⟩ := Sb
  refine Run.pure hK (seg := [(0, .aload_n 0, 1)]) (by decide +kernel) (pc' := 1) (L' := #[.val (.ref x0), .val (.int (Int32.ofNat m)), .unset]) (S' := [(.ref x0)]) rfl ?_
  refine Run.getf hK (index := 15) (host := "") (Or.inl (hw _ (List.mem_of_getElem? (i := 54) rfl))) Via.refl Fv (by decide +kernel) ?_
  refine Run.alen hK Av (by decide +kernel) ?_
  refine Run.pure hK (seg := [(5, .aload_n 0, 1)]) (by decide +kernel) (pc' := 6) (L' := #[.val (.ref x0), .val (.int (Int32.ofNat m)), .unset]) (S' := [(.ref x0), (.int (Int32.ofNat cap))]) rfl ?_
  refine Run.getf hK (index := 22) (host := "") (Or.inl (hw _ (List.mem_of_getElem? (i := 56) rfl))) Via.refl Fc (by decide +kernel) ?_
  refine Run.pure hK (seg := [(9, .ishr, 1)]) (by decide +kernel) (pc' := 10) (L' := #[.val (.ref x0), .val (.int (Int32.ofNat m)), .unset]) (S' := [(.int ((Int32.ofNat cap) >>> ((0 : Int32) &&& 31)))]) rfl ?_
  rw [shr0]
  refine Run.pure hK (seg := [(10, .istore_n 2, 1), (11, .iload_n 1, 1), (12, .iload_n 2, 1), (13, .isub, 1)]) (by decide +kernel) (pc' := 14) (L' := #[.val (.ref x0), .val (.int (Int32.ofNat m)), .val (.int (Int32.ofNat cap))]) (S' := [(.int ((Int32.ofNat m) - (Int32.ofNat cap)))]) rfl ?_
  refine Run.ifz hK (cd := .le) (o := 24) (by decide +kernel) (by decide) (pc' := 38) rfl (fun _ => ?_) (fun q => by replace q := (h_le _ _).2 q; exact absurd q (le_sub0 hm hcap))
  exact Run.retv hK (by decide +kernel) (by decide) (by decide) ⟨rfl, rfl⟩
set_option maxRecDepth 65536 in
set_option maxHeartbeats 40000000 in
theorem c_put {l : Launch} {Z : State} {a0 : Array Value} {z0 : Int32} {fm : Value} (G : Env1 Z a0 z0 fm) (x0 x va : Addr) {cs ds : List Int32} {k : ClassId} {cap : Nat} (h : Heap) (Sb : SBo Z h x0 va k cap ds) (F : Str Z h x cs) (hc : ds.length + cs.length ≤ cap) : Ctr Z consts_1 true l [] (⟨"java/lang/AbstractStringBuilder", "putStringAt", "(ILjava/lang/String;)V"⟩ : MethodName) jdk_68_method_73_code 3 none ({ frames := 2, cells := 0, slots := 0, locals := 40 } : Room) #[(.ref x0), (.int (Int32.ofNat ds.length)), (.ref x)] h [va] (fun v h' => v = none ∧ Arv Z h' va k .byte (Int32.ofNat cap) (((ds ++ cs).map StrChars.lo8).map Value.int) (.int 0) ∧ Keep h h' [va]) := by
  obtain ⟨hw, hEL, O2, P5, O4⟩ := id G
  refine Ctr.of_run (a0 := a0) (L0 := #[.val (.ref x0), .val (.int (Int32.ofNat ds.length)), .val (.ref x)]) (plainFor_of_name pn_asb) hEL (by first | (simp [argsToLocals, Value.category, maxLocals]; done) | rfl) (fun K hK => ?_)
  refine Run.pure hK (seg := [(0, .aload_n 0, 1), (1, .aload_n 2, 1)]) (by decide +kernel) (pc' := 2) (L' := #[.val (.ref x0), .val (.int (Int32.ofNat ds.length)), .val (.ref x)]) (S' := [(.ref x), (.ref x0)]) rfl ?_
  refine Run.privatS hK (index := 397) (y := (⟨"java/lang/AbstractStringBuilder", "inflateIfNeededFor", "(Ljava/lang/String;)V"⟩ : MethodName)) (Wt := 0) (kc := 0) (ks := 0) (hw _ (List.mem_of_getElem? (i := 90) rfl)) (hw _ (List.mem_of_getElem? (i := 91) rfl)) (hw _ (List.mem_of_getElem? (i := 93) rfl)) (hw _ (List.mem_of_getElem? (i := 92) rfl)) (hw _ (List.mem_of_getElem? (i := 94) rfl)) (by decide) (a := x0) Sb.1 (W' := []) (fun _ q => nomatch q) (Ctr.cal (c_inf G x0 x va h Sb F) (hw _ (List.mem_of_getElem? (i := 94) rfl)) (hw _ (List.mem_of_getElem? (i := 50) rfl)) (by decide) (by decide)) rfl (argsL := [(.ref x)]) (rest := []) (lenOf pd_inf rfl) rfl (Nat.le_of_ble_eq_true rfl) (by decide +kernel) (by decide) (by decide) (fun v1 h1 q1 n1 => ?_)
  obtain ⟨rfl, rfl⟩ := q1
  obtain ⟨X, Fv, Fc, Fn, Av, g1, g2, g3, hcap, -⟩ := Sb
  refine Run.pure hK (seg := [(5, .aload_n 2, 1), (6, .aload_n 0, 1)]) (by decide +kernel) (pc' := 7) (L' := #[.val (.ref x0), .val (.int (Int32.ofNat ds.length)), .val (.ref x)]) (S' := [(.ref x0), (.ref x)]) rfl ?_
  refine Run.getf hK (index := 15) (host := "") (Or.inl (hw _ (List.mem_of_getElem? (i := 54) rfl))) Via.refl Fv (by decide +kernel) ?_
  refine Run.pure hK (seg := [(10, .iload_n 1, 1), (11, .aload_n 0, 1)]) (by decide +kernel) (pc' := 12) (L' := #[.val (.ref x0), .val (.int (Int32.ofNat ds.length)), .val (.ref x)]) (S' := [(.ref x0), (.int (Int32.ofNat ds.length)), (.ref va), (.ref x)]) rfl ?_
  refine Run.getf hK (index := 22) (host := "") (Or.inl (hw _ (List.mem_of_getElem? (i := 56) rfl))) Via.refl Fc (by decide +kernel) ?_
  refine Run.virtual hK (index := 399) (y := (⟨"java/lang/String", "getBytes", "([BIB)V"⟩ : MethodName)) (z := (⟨"java/lang/String", "getBytes", "([BIB)V"⟩ : MethodName)) (C := "java/lang/String") (Wt := 0) (kc := 0) (ks := 0) (hw _ (List.mem_of_getElem? (i := 96) rfl)) (hw _ (List.mem_of_getElem? (i := 97) rfl)) (nfS (hw _ (List.mem_of_getElem? (i := 99) rfl))) (hw _ (List.mem_of_getElem? (i := 99) rfl)) (hw _ (List.mem_of_getElem? (i := 98) rfl)) (by decide) (a := x) F.1 (fun _ q => q) (Ctr.cal (c_gb G x va h1 F Av g2 hc hcap) (hw _ (List.mem_of_getElem? (i := 100) rfl)) (hw _ (List.mem_of_getElem? (i := 2) rfl)) (by decide) (by decide)) rfl (argsL := [(.ref va), (.int (Int32.ofNat ds.length)), (.int (0 : Int32))]) (rest := []) (lenOf pd_gb rfl) rfl (Nat.le_of_ble_eq_true rfl) (by decide +kernel) (by decide) (by decide) (fun v2 h2 q2 n2 => ?_)
  obtain ⟨rfl, q⟩ := q2
  exact Run.retv hK (by decide +kernel) (by decide) (by decide) ⟨rfl, q⟩
set_option maxRecDepth 65536 in
set_option maxHeartbeats 40000000 in
theorem c_aap {l : Launch} {Z : State} {a0 : Array Value} {z0 : Int32} {fm : Value} (G : Env1 Z a0 z0 fm) (x0 x va : Addr) {cs ds : List Int32} {k : ClassId} {cap : Nat} (h : Heap) (Sb : SBo Z h x0 va k cap ds) (F : Str Z h x cs) (hc : ds.length + cs.length ≤ cap) : Ctr Z consts_1 true l [] (⟨"java/lang/AbstractStringBuilder", "append", "(Ljava/lang/String;)Ljava/lang/AbstractStringBuilder;"⟩ : MethodName) jdk_68_method_22_code 3 (some (.object "java/lang/AbstractStringBuilder")) ({ frames := 3, cells := 0, slots := 0, locals := 60 } : Room) #[(.ref x0), (.ref x)] h [va] (fun v h' => v = some (.ref x0) ∧ SBo Z h' x0 va k cap (ds ++ cs) ∧ Keep h h' [x0, va]) := by
  obtain ⟨hw, hEL, O2, P5, O4⟩ := id G
  refine Ctr.of_run (a0 := a0) (L0 := #[.val (.ref x0), .val (.ref x), .unset]) (plainFor_of_name pn_asb) hEL (by first | (simp [argsToLocals, Value.category, maxLocals]; done) | rfl) (fun K hK => ?_)
  refine Run.pure hK (seg := [(0, .aload_n 1, 1)]) (by decide +kernel) (pc' := 1) (L' := #[.val (.ref x0), .val (.ref x), .unset]) (S' := [(.ref x)]) rfl ?_
  refine Run.ifnnr hK (o := 8) (by decide +kernel) (by decide) (pc' := 9) rfl ?_
  refine Run.pure hK (seg := [(9, .aload_n 1, 1)]) (by decide +kernel) (pc' := 10) (L' := #[.val (.ref x0), .val (.ref x), .unset]) (S' := [(.ref x)]) rfl ?_
  refine Run.virtual hK (index := 32) (y := (⟨"java/lang/String", "length", "()I"⟩ : MethodName)) (z := (⟨"java/lang/String", "length", "()I"⟩ : MethodName)) (C := "java/lang/String") (Wt := 0) (kc := 0) (ks := 0) (hw _ (List.mem_of_getElem? (i := 68) rfl)) (hw _ (List.mem_of_getElem? (i := 69) rfl)) (nfS (hw _ (List.mem_of_getElem? (i := 71) rfl))) (hw _ (List.mem_of_getElem? (i := 71) rfl)) (hw _ (List.mem_of_getElem? (i := 70) rfl)) (by decide) (a := x) F.1 (fun _ q => q) (cal_len (g_lenW hw) (hw _ (List.mem_of_getElem? (i := 1) rfl)) F O2 P5 (by decide) (by decide)) rfl (argsL := []) (rest := []) (lenOf pd_len rfl) rfl (Nat.le_of_ble_eq_true rfl) (by decide +kernel) (by decide) (by decide) (fun v1 h1 q1 n1 => ?_)
  obtain ⟨rfl, rfl⟩ := q1
  obtain ⟨X, Fv, Fc, Fn, Av, g1, g2, g3, hcap, g5⟩ := id Sb
  have F5 := F.2.2.2.1
  have nxv : x0 ≠ va := X.neArv Av (hw _ (List.mem_of_getElem? (i := 41) rfl))
  refine Run.pure hK (seg := [(13, .istore_n 2, 1), (14, .aload_n 0, 1), (15, .aload_n 0, 1)]) (by decide +kernel) (pc' := 16) (L' := #[.val (.ref x0), .val (.ref x), .val (.int (Int32.ofNat cs.length))]) (S' := [(.ref x0), (.ref x0)]) rfl ?_
  refine Run.getf hK (index := 79) (host := "") (Or.inl (hw _ (List.mem_of_getElem? (i := 78) rfl))) Via.refl Fn (by decide +kernel) ?_
  refine Run.pure hK (seg := [(19, .iload_n 2, 1), (20, .iadd, 1)]) (by decide +kernel) (pc' := 21) (L' := #[.val (.ref x0), .val (.ref x), .val (.int (Int32.ofNat cs.length))]) (S' := [(.int ((Int32.ofNat ds.length) + (Int32.ofNat cs.length))), (.ref x0)]) rfl ?_
  rw [ofN_add (by omega : ds.length + cs.length ≤ 4000)]
  refine Run.privatS hK (index := 100) (y := (⟨"java/lang/AbstractStringBuilder", "ensureCapacityInternal", "(I)V"⟩ : MethodName)) (Wt := 0) (kc := 0) (ks := 0) (hw _ (List.mem_of_getElem? (i := 80) rfl)) (hw _ (List.mem_of_getElem? (i := 81) rfl)) (hw _ (List.mem_of_getElem? (i := 83) rfl)) (hw _ (List.mem_of_getElem? (i := 82) rfl)) (hw _ (List.mem_of_getElem? (i := 84) rfl)) (by decide) (a := x0) X (W' := []) (fun _ q => nomatch q) (Ctr.cal (c_ens G x0 va (ds.length + cs.length) h1 Sb hc) (hw _ (List.mem_of_getElem? (i := 84) rfl)) (hw _ (List.mem_of_getElem? (i := 50) rfl)) (by decide) (by decide)) rfl (argsL := [(.int (Int32.ofNat (ds.length + cs.length)))]) (rest := []) (lenOf pd_asb rfl) rfl (Nat.le_of_ble_eq_true rfl) (by decide +kernel) (by decide) (by decide) (fun v2 h2 q2 n2 => ?_)
  obtain ⟨rfl, rfl⟩ := q2
  refine Run.pure hK (seg := [(24, .aload_n 0, 1), (25, .aload_n 0, 1)]) (by decide +kernel) (pc' := 26) (L' := #[.val (.ref x0), .val (.ref x), .val (.int (Int32.ofNat cs.length))]) (S' := [(.ref x0), (.ref x0)]) rfl ?_
  refine Run.getf hK (index := 79) (host := "") (Or.inl (hw _ (List.mem_of_getElem? (i := 78) rfl))) Via.refl Fn (by decide +kernel) ?_
  refine Run.pure hK (seg := [(29, .aload_n 1, 1)]) (by decide +kernel) (pc' := 30) (L' := #[.val (.ref x0), .val (.ref x), .val (.int (Int32.ofNat cs.length))]) (S' := [(.ref x), (.int (Int32.ofNat ds.length)), (.ref x0)]) rfl ?_
  refine Run.privatS hK (index := 208) (y := (⟨"java/lang/AbstractStringBuilder", "putStringAt", "(ILjava/lang/String;)V"⟩ : MethodName)) (Wt := 0) (kc := 0) (ks := 0) (hw _ (List.mem_of_getElem? (i := 85) rfl)) (hw _ (List.mem_of_getElem? (i := 86) rfl)) (hw _ (List.mem_of_getElem? (i := 88) rfl)) (hw _ (List.mem_of_getElem? (i := 87) rfl)) (hw _ (List.mem_of_getElem? (i := 89) rfl)) (by decide) (a := x0) X (fun _ q => q) (Ctr.cal (c_put G x0 x va h2 Sb F hc) (hw _ (List.mem_of_getElem? (i := 89) rfl)) (hw _ (List.mem_of_getElem? (i := 50) rfl)) (by decide) (by decide)) rfl (argsL := [(.int (Int32.ofNat ds.length)), (.ref x)]) (rest := []) (lenOf pd_put rfl) rfl (Nat.le_of_ble_eq_true rfl) (by decide +kernel) (by decide) (by decide) (fun v3 h3 q3 n3 => ?_)
  obtain ⟨rfl, Av3, K3⟩ := q3
  replace Fv := Fv.keep K3 (fun z => nxv (List.mem_singleton.mp z))
  replace Fc := Fc.keep K3 (fun z => nxv (List.mem_singleton.mp z))
  replace Fn := Fn.keep K3 (fun z => nxv (List.mem_singleton.mp z))
  replace X := X.keep K3
  refine Run.pure hK (seg := [(33, .aload_n 0, 1), (34, .dup, 1)]) (by decide +kernel) (pc' := 35) (L' := #[.val (.ref x0), .val (.ref x), .val (.int (Int32.ofNat cs.length))]) (S' := [(.ref x0), (.ref x0)]) rfl ?_
  refine Run.getf hK (index := 79) (host := "") (Or.inl (hw _ (List.mem_of_getElem? (i := 78) rfl))) Via.refl Fn (by decide +kernel) ?_
  refine Run.pure hK (seg := [(38, .iload_n 2, 1), (39, .iadd, 1)]) (by decide +kernel) (pc' := 40) (L' := #[.val (.ref x0), .val (.ref x), .val (.int (Int32.ofNat cs.length))]) (S' := [(.int ((Int32.ofNat ds.length) + (Int32.ofNat cs.length))), (.ref x0)]) rfl ?_
  rw [ofN_add (by omega : ds.length + cs.length ≤ 4000)]
  refine Run.putf hK (index := 79) (host := "") (Or.inl (hw _ (List.mem_of_getElem? (i := 78) rfl))) Via.refl Fn X (Or.inl (hw _ (List.mem_of_getElem? (i := 79) rfl))) (hw _ (List.mem_of_getElem? (i := 41) rfl)) (ty := .int) (by decide) rfl rfl g1 (sfE X (by decide) (by decide)) (by decide +kernel) (fun h4 W4 => ?_)
  replace Fv := Fv.other W4 (Or.inr (slot_ne (Or.inl (hw _ (List.mem_of_getElem? (i := 55) rfl))) (Or.inl (hw _ (List.mem_of_getElem? (i := 79) rfl))) (by decide) (by decide : parseFieldDescriptor "[B" = some (.array .byte)) (by decide : parseFieldDescriptor "I" = some .int)))
  replace Fc := Fc.other W4 (Or.inr (slot_ne (Or.inl (hw _ (List.mem_of_getElem? (i := 57) rfl))) (Or.inl (hw _ (List.mem_of_getElem? (i := 79) rfl))) (by decide) (by decide : parseFieldDescriptor "B" = some .byte) (by decide : parseFieldDescriptor "I" = some .int)))
  replace Fn := Fn.same W4
  replace X := X.wr W4
  replace Av3 := Av3.other W4 nxv.symm
  rw [← List.length_append] at Fn
  have KK := ((Keep.refl _ [x0, va]).trans K3 (fun x hx => Or.inl (by cases List.mem_singleton.mp hx; simp))).wr W4 (Or.inl (by simp))
  refine Run.pure hK (seg := [(43, .aload_n 0, 1)]) (by decide +kernel) (pc' := 44) (L' := #[.val (.ref x0), .val (.ref x), .val (.int (Int32.ofNat cs.length))]) (S' := [(.ref x0)]) rfl ?_
  exact Run.retw hK (i := .areturn) rfl (Or.inr (Or.inr (Or.inr (Or.inr ⟨rfl, rfl, rfl⟩)))) (by decide +kernel) (by decide) (by decide) ⟨rfl, ⟨X, Fv, Fc, Fn, Av3, g1, g2, by rw [List.length_append]; exact hc, hcap, fun c hc => (List.mem_append.mp hc).elim (g5 c) (F5 c)⟩, KK⟩
set_option maxRecDepth 65536 in
set_option maxHeartbeats 40000000 in
theorem c_sap {l : Launch} {Z : State} {a0 : Array Value} {z0 : Int32} {fm : Value} (G : Env1 Z a0 z0 fm) (x0 x va : Addr) {cs ds : List Int32} {k : ClassId} {cap : Nat} (h : Heap) (Sb : SBo Z h x0 va k cap ds) (F : Str Z h x cs) (hc : ds.length + cs.length ≤ cap) : Ctr Z consts_1 true l [] (⟨"java/lang/StringBuilder", "append", "(Ljava/lang/String;)Ljava/lang/StringBuilder;"⟩ : MethodName) jdk_67_method_7_code 2 (some (.object "java/lang/StringBuilder")) ({ frames := 4, cells := 0, slots := 0, locals := 80 } : Room) #[(.ref x0), (.ref x)] h [va] (fun v h' => v = some (.ref x0) ∧ SBo Z h' x0 va k cap (ds ++ cs) ∧ Keep h h' [x0, va]) := by
  obtain ⟨hw, hEL, O2, P5, O4⟩ := id G
  refine Ctr.of_run (a0 := a0) (L0 := #[.val (.ref x0), .val (.ref x)]) (plainFor_of_name pn_sb) hEL (by first | (simp [argsToLocals, Value.category, maxLocals]; done) | rfl) (fun K hK => ?_)
  refine Run.pure hK (seg := [(0, .aload_n 0, 1), (1, .aload_n 1, 1)]) (by decide +kernel) (pc' := 2) (L' := #[.val (.ref x0), .val (.ref x)]) (S' := [(.ref x), (.ref x0)]) rfl ?_
  refine Run.up hK (index := 29) (y := (⟨"java/lang/AbstractStringBuilder", "append", "(Ljava/lang/String;)Ljava/lang/AbstractStringBuilder;"⟩ : MethodName)) (Wt := 0) (kc := 0) (ks := 0) (by decide) (hw _ (List.mem_of_getElem? (i := 63) rfl)) (sm_of (hw _ (List.mem_of_getElem? (i := 83) rfl)) (hw _ (List.mem_of_getElem? (i := 81) rfl)) (hw _ (List.mem_of_getElem? (i := 64) rfl)) rfl (by decide)) (hw _ (List.mem_of_getElem? (i := 64) rfl)) (hw _ (List.mem_of_getElem? (i := 65) rfl)) (hw _ (List.mem_of_getElem? (i := 67) rfl)) (a := x0) (Ins.self Sb.1) (fun _ q => q) (Ctr.cal (c_aap G x0 x va h Sb F hc) (hw _ (List.mem_of_getElem? (i := 67) rfl)) (hw _ (List.mem_of_getElem? (i := 50) rfl)) (by decide) (by decide)) rfl (argsL := [(.ref x)]) (rest := []) (lenOf pd_aap rfl) rfl (Nat.le_of_ble_eq_true rfl) (by decide +kernel) (by decide) (by decide) (fun v1 h1 q1 n1 => ?_)
  obtain ⟨rfl, q⟩ := q1
  refine Run.pure hK (seg := [(5, .pop, 1), (6, .aload_n 0, 1)]) (by decide +kernel) (pc' := 7) (L' := #[.val (.ref x0), .val (.ref x)]) (S' := [(.ref x0)]) rfl ?_
  exact Run.retw hK (i := .areturn) rfl (Or.inr (Or.inr (Or.inr (Or.inr ⟨rfl, rfl, rfl⟩)))) (by decide +kernel) (by decide) (by decide) ⟨rfl, q⟩
set_option maxRecDepth 65536 in
set_option maxHeartbeats 40000000 in
theorem c_min {l : Launch} {Z : State} {a0 : Array Value} {z0 : Int32} {fm : Value} (G : Env1 Z a0 z0 fm) (x y : Int32) (h : Heap) : Ctr Z consts_1 true l [] (⟨"java/lang/Math", "min", "(II)I"⟩ : MethodName) jdk_29_method_69_code 2 (some .int) ({ frames := 0, cells := 0, slots := 0, locals := 0 } : Room) #[(.int x), (.int y)] h [] (fun v h' => h' = h ∧ v = some (.int (if y < x then y else x))) := by
  obtain ⟨hw, hEL, O2, P5, O4⟩ := id G
  refine Ctr.of_run (a0 := a0) (L0 := #[.val (.int x), .val (.int y)]) (Jvm.Free.JP.mathPlain rfl (by decide +kernel)) hEL (by first | (simp [argsToLocals, Value.category, maxLocals]; done) | rfl) (fun K hK => ?_)
  refine Run.pure hK (seg := [(0, .iload_n 0, 1), (1, .iload_n 1, 1)]) (by decide +kernel) (pc' := 2) (L' := #[.val (.int x), .val (.int y)]) (S' := [(.int y), (.int x)]) rfl ?_
  refine Run.icmp hK (cd := .gt) (o := 7) (by decide +kernel) (by decide) (pc' := 9) rfl (fun q => ?_) (fun q => ?_)
  · replace q := (h_gt _ _).1 q
    refine Run.pure hK (seg := [(9, .iload_n 1, 1)]) (by decide +kernel) (pc' := 10) (L' := #[.val (.int x), .val (.int y)]) (S' := [(.int y)]) rfl ?_
    exact Run.retw hK (i := .ireturn) rfl (Or.inl ⟨rfl, Or.inl rfl, _, rfl⟩) (by decide +kernel) (by decide) (by decide) ⟨rfl, by rw [if_pos q]⟩
  · replace q := (h_gt _ _).2 q
    refine Run.pure hK (seg := [(5, .iload_n 0, 1), (6, .goto 4, 3)]) (by decide +kernel) (pc' := 10) (L' := #[.val (.int x), .val (.int y)]) (S' := [(.int x)]) rfl ?_
    exact Run.retw hK (i := .ireturn) rfl (Or.inl ⟨rfl, Or.inl rfl, _, rfl⟩) (by decide +kernel) (by decide) (by decide) ⟨rfl, by rw [if_neg q]⟩
set_option maxRecDepth 65536 in
set_option maxHeartbeats 40000000 in
theorem c_gv {l : Launch} {Z : State} {a0 : Array Value} {z0 : Int32} {fm : Value} (G : Env1 Z a0 z0 fm) (x0 va : Addr) {cs : List Int32} {k : ClassId} {cap : Nat} (h : Heap) (Sb : SBo Z h x0 va k cap cs) : Ctr Z consts_1 true l [] (⟨"java/lang/AbstractStringBuilder", "getValue", "()[B"⟩ : MethodName) jdk_68_method_64_code 1 (some (.array .byte)) ({ frames := 0, cells := 0, slots := 0, locals := 0 } : Room) #[(.ref x0)] h [] (fun v h' => h' = h ∧ v = some (.ref va)) := by
  obtain ⟨hw, hEL, O2, P5, O4⟩ := id G
  refine Ctr.of_run (a0 := a0) (L0 := #[.val (.ref x0)]) (plainFor_of_name pn_asb) hEL (by first | (simp [argsToLocals, Value.category, maxLocals]; done) | rfl) (fun K hK => ?_)
  obtain ⟨X, Fv, Fc, Fn, Av, -⟩ := Sb
  refine Run.pure hK (seg := [(0, .aload_n 0, 1)]) (by decide +kernel) (pc' := 1) (L' := #[.val (.ref x0)]) (S' := [(.ref x0)]) rfl ?_
  refine Run.getf hK (index := 15) (host := "") (Or.inl (hw _ (List.mem_of_getElem? (i := 54) rfl))) Via.refl Fv (by decide +kernel) ?_
  exact Run.retw hK (i := .areturn) rfl (Or.inr (Or.inr (Or.inr (Or.inr ⟨rfl, rfl, rfl⟩)))) (by decide +kernel) (by decide) (by decide) ⟨rfl, rfl⟩
set_option maxRecDepth 65536 in
set_option maxHeartbeats 40000000 in
theorem c_al {l : Launch} {Z : State} {a0 : Array Value} {z0 : Int32} {fm : Value} (G : Env1 Z a0 z0 fm) (x0 va : Addr) {cs : List Int32} {k : ClassId} {cap : Nat} (h : Heap) (Sb : SBo Z h x0 va k cap cs) : Ctr Z consts_1 true l [] (⟨"java/lang/AbstractStringBuilder", "length", "()I"⟩ : MethodName) jdk_68_method_6_code 1 (some .int) ({ frames := 0, cells := 0, slots := 0, locals := 0 } : Room) #[(.ref x0)] h [] (fun v h' => h' = h ∧ v = some (.int (Int32.ofNat cs.length))) := by
  obtain ⟨hw, hEL, O2, P5, O4⟩ := id G
  refine Ctr.of_run (a0 := a0) (L0 := #[.val (.ref x0)]) (plainFor_of_name pn_asb) hEL (by first | (simp [argsToLocals, Value.category, maxLocals]; done) | rfl) (fun K hK => ?_)
  obtain ⟨X, Fv, Fc, Fn, Av, -⟩ := Sb
  refine Run.pure hK (seg := [(0, .aload_n 0, 1)]) (by decide +kernel) (pc' := 1) (L' := #[.val (.ref x0)]) (S' := [(.ref x0)]) rfl ?_
  refine Run.getf hK (index := 79) (host := "") (Or.inl (hw _ (List.mem_of_getElem? (i := 78) rfl))) Via.refl Fn (by decide +kernel) ?_
  exact Run.retw hK (i := .ireturn) rfl (Or.inl ⟨rfl, Or.inl rfl, _, rfl⟩) (by decide +kernel) (by decide) (by decide) ⟨rfl, rfl⟩
set_option maxRecDepth 65536 in
set_option maxHeartbeats 40000000 in
theorem c_sl {l : Launch} {Z : State} {a0 : Array Value} {z0 : Int32} {fm : Value} (G : Env1 Z a0 z0 fm) (x0 va : Addr) {cs : List Int32} {k : ClassId} {cap : Nat} (h : Heap) (Sb : SBo Z h x0 va k cap cs) : Ctr Z consts_1 true l [] (⟨"java/lang/StringBuilder", "length", "()I"⟩ : MethodName) jdk_67_method_93_code 1 (some .int) ({ frames := 1, cells := 0, slots := 0, locals := 12 } : Room) #[(.ref x0)] h [] (fun v h' => h' = h ∧ v = some (.int (Int32.ofNat cs.length))) := by
  obtain ⟨hw, hEL, O2, P5, O4⟩ := id G
  refine Ctr.of_run (a0 := a0) (L0 := #[.val (.ref x0)]) (plainFor_of_name pn_sb) hEL (by first | (simp [argsToLocals, Value.category, maxLocals]; done) | rfl) (fun K hK => ?_)
  refine Run.pure hK (seg := [(0, .aload_n 0, 1)]) (by decide +kernel) (pc' := 1) (L' := #[.val (.ref x0)]) (S' := [(.ref x0)]) rfl ?_
  refine Run.up hK (index := 343) (y := (⟨"java/lang/AbstractStringBuilder", "length", "()I"⟩ : MethodName)) (Wt := 0) (kc := 0) (ks := 0) (by decide) (hw _ (List.mem_of_getElem? (i := 153) rfl)) (sm_of (hw _ (List.mem_of_getElem? (i := 83) rfl)) (hw _ (List.mem_of_getElem? (i := 81) rfl)) (hw _ (List.mem_of_getElem? (i := 149) rfl)) rfl (by decide)) (hw _ (List.mem_of_getElem? (i := 149) rfl)) (hw _ (List.mem_of_getElem? (i := 65) rfl)) (hw _ (List.mem_of_getElem? (i := 154) rfl)) (a := x0) (Ins.self Sb.1) (W' := []) (fun _ q => nomatch q) (Ctr.cal (c_al G x0 va h Sb) (hw _ (List.mem_of_getElem? (i := 154) rfl)) (hw _ (List.mem_of_getElem? (i := 50) rfl)) (by decide) (by decide)) rfl (argsL := []) (rest := []) (lenOf pd_len rfl) rfl (Nat.le_of_ble_eq_true rfl) (by decide +kernel) (by decide) (by decide) (fun v1 h1 q1 n1 => ?_)
  obtain ⟨rfl, rfl⟩ := q1
  exact Run.retw hK (i := .ireturn) rfl (Or.inl ⟨rfl, Or.inl rfl, _, rfl⟩) (by decide +kernel) (by decide) (by decide) ⟨rfl, rfl⟩
set_option maxRecDepth 65536 in
set_option maxHeartbeats 40000000 in
theorem c_il {l : Launch} {Z : State} {a0 : Array Value} {z0 : Int32} {fm : Value} (G : Env1 Z a0 z0 fm) (x0 va : Addr) {cs : List Int32} {k : ClassId} {cap : Nat} (h : Heap) (Sb : SBo Z h x0 va k cap cs) : Ctr Z consts_1 true l [] (⟨"java/lang/AbstractStringBuilder", "isLatin1", "()Z"⟩ : MethodName) jdk_68_method_68_code 1 (some .boolean) ({ frames := 0, cells := 0, slots := 0, locals := 0 } : Room) #[(.ref x0)] h [] (fun v h' => h' = h ∧ v = some (.int 1)) := by
  obtain ⟨hw, hEL, O2, P5, O4⟩ := id G
  refine Ctr.of_run (a0 := a0) (L0 := #[.val (.ref x0)]) (plainFor_of_name pn_asb) hEL (by first | (simp [argsToLocals, Value.category, maxLocals]; done) | rfl) (fun K hK => ?_)
  obtain ⟨X, Fv, Fc, Fn, Av, -⟩ := Sb
  refine Run.old (fun hO => ?_)
  refine Run.gets hK (index := 18) (hw _ (List.mem_of_getElem? (i := 53) rfl)) Via.refl (O2.ext hO) (by decide +kernel) ?_
  refine Run.ifz hK (cd := .eq) (o := 14) (by decide +kernel) (by decide) (pc' := 17) rfl (fun q => by replace q := (h_eq _ _).1 q; exact absurd q P5) (fun _ => ?_)
  refine Run.pure hK (seg := [(6, .aload_n 0, 1)]) (by decide +kernel) (pc' := 7) (L' := #[.val (.ref x0)]) (S' := [(.ref x0)]) rfl ?_
  refine Run.getf hK (index := 22) (host := "") (Or.inl (hw _ (List.mem_of_getElem? (i := 56) rfl))) Via.refl Fc (by decide +kernel) ?_
  refine Run.ifz hK (cd := .ne) (o := 7) (by decide +kernel) (by decide) (pc' := 17) rfl (fun q => by replace q := (h_ne _ _).1 q; exact absurd rfl q) (fun _ => ?_)
  refine Run.pure hK (seg := [(13, .iconst 1, 1), (14, .goto 4, 3)]) (by decide +kernel) (pc' := 18) (L' := #[.val (.ref x0)]) (S' := [(.int (1 : Int32))]) rfl ?_
  exact Run.retw hK (i := .ireturn) rfl (Or.inl ⟨rfl, Or.inr (Or.inl rfl), _, rfl⟩) (by decide +kernel) (by decide) (by decide) ⟨rfl, rfl⟩
set_option maxRecDepth 65536 in
set_option maxHeartbeats 40000000 in
theorem c_ck {l : Launch} {Z : State} {a0 : Array Value} {z0 : Int32} {fm : Value} (G : Env1 Z a0 z0 fm) (m : Nat) (h : Heap) (hm : m ≤ 4000) : Ctr Z consts_1 true l [] (⟨"java/util/Arrays", "checkLength", "(II)V"⟩ : MethodName) jdk_65_method_131_code 2 none ({ frames := 0, cells := 0, slots := 0, locals := 0 } : Room) #[(.int (0 : Int32)), (.int (Int32.ofNat m))] h [] (fun v h' => h' = h ∧ v = none) := by
  obtain ⟨hw, hEL, O2, P5, O4⟩ := id G
  refine Ctr.of_run (a0 := a0) (L0 := #[.val (.int (0 : Int32)), .val (.int (Int32.ofNat m))]) (plainFor_of_name pn_ar) hEL (by first | (simp [argsToLocals, Value.category, maxLocals]; done) | rfl) (fun K hK => ?_)
  refine Run.pure hK (seg := [(0, .iload_n 1, 1), (1, .iload_n 0, 1)]) (by decide +kernel) (pc' := 2) (L' := #[.val (.int (0 : Int32)), .val (.int (Int32.ofNat m))]) (S' := [(.int (0 : Int32)), (.int (Int32.ofNat m))]) rfl ?_
  refine Run.icmp hK (cd := .ge) (o := 35) (by decide +kernel) (by decide) (pc' := 37) rfl (fun _ => ?_) (fun q => by replace q := (h_ge _ _).2 q; exact absurd q (ofN_nn hm))
  exact Run.retv hK (by decide +kernel) (by decide) (by decide) ⟨rfl, rfl⟩
set_option maxRecDepth 65536 in
set_option maxHeartbeats 40000000 in
theorem c_crb {l : Launch} {Z : State} {a0 : Array Value} {z0 : Int32} {fm : Value} (G : Env1 Z a0 z0 fm) (va : Addr) (m : Nat) {vs : List Value} {k : ClassId} {cap : Nat} (h : Heap) (A : Arv Z h va k .byte (Int32.ofNat cap) vs (.int 0)) (hm : vs.length = m) (hlt : m < cap) (hcap : cap ≤ 4000) (hC : m ≤ 44) : Ctr Z consts_1 true l [] (⟨"java/util/Arrays", "copyOfRangeByte", "([BII)[B"⟩ : MethodName) jdk_65_method_133_code 5 (some (.array .byte)) ({ frames := 1, cells := 1, slots := 44, locals := 24 } : Room) #[(.ref va), (.int (0 : Int32)), (.int (Int32.ofNat m))] h [] (fun v h' => ∃ a k', v = some (.ref a) ∧ Arv Z h' a k' .byte (Int32.ofNat m) vs (.int 0) ∧ Ext h h') := by
  obtain ⟨hw, hEL, O2, P5, O4⟩ := id G
  refine Ctr.of_run (a0 := a0) (L0 := #[.val (.ref va), .val (.int (0 : Int32)), .val (.int (Int32.ofNat m)), .unset, .unset]) (plainFor_of_name pn_ar) hEL (by first | (simp [argsToLocals, Value.category, maxLocals]; done) | rfl) (fun K hK => ?_)
  refine Run.old (fun hO => ?_)
  refine Run.pure hK (seg := [(0, .iload_n 1, 1), (1, .iload_n 2, 1)]) (by decide +kernel) (pc' := 2) (L' := #[.val (.ref va), .val (.int (0 : Int32)), .val (.int (Int32.ofNat m)), .unset, .unset]) (S' := [(.int (Int32.ofNat m)), (.int (0 : Int32))]) rfl ?_
  refine Run.static hK (index := 343) (y := (⟨"java/util/Arrays", "checkLength", "(II)V"⟩ : MethodName)) (Wt := 0) (kc := 0) (ks := 0) (hw _ (List.mem_of_getElem? (i := 166) rfl)) (hw _ (List.mem_of_getElem? (i := 167) rfl)) (hw _ (List.mem_of_getElem? (i := 123) rfl)) (hw _ (List.mem_of_getElem? (i := 168) rfl)) (by decide) (W' := []) (fun _ q => nomatch q) (Ctr.cal (c_ck G m h (by omega)) (hw _ (List.mem_of_getElem? (i := 168) rfl)) (hw _ (List.mem_of_getElem? (i := 123) rfl)) (by decide) (by decide)) rfl (argsL := [(.int (0 : Int32)), (.int (Int32.ofNat m))]) (rest := []) (lenOf pd_ck rfl) rfl (Nat.le_of_ble_eq_true rfl) (by decide +kernel) (by decide) (by decide) (fun v1 h1 q1 n1 => ?_)
  obtain ⟨rfl, rfl⟩ := q1
  refine Run.pure hK (seg := [(5, .iload_n 2, 1), (6, .iload_n 1, 1), (7, .isub, 1)]) (by decide +kernel) (pc' := 8) (L' := #[.val (.ref va), .val (.int (0 : Int32)), .val (.int (Int32.ofNat m)), .unset, .unset]) (S' := [(.int ((Int32.ofNat m) - (0 : Int32)))]) rfl ?_
  rw [sub0]
  refine Run.pure hK (seg := [(8, .istore_n 3, 1), (9, .iload_n 3, 1)]) (by decide +kernel) (pc' := 10) (L' := #[.val (.ref va), .val (.int (0 : Int32)), .val (.int (Int32.ofNat m)), .val (.int (Int32.ofNat m)), .unset]) (S' := [(.int (Int32.ofNat m))]) rfl ?_
  refine Run.newarr hK (aty := .byte) (hw _ (List.mem_of_getElem? (i := 15) rfl)) (by decide +kernel) (ofN_nn (by omega)) (cap := 44) (by rw [ofN_nat (by omega)]; exact hC) (by decide) (by decide) (by decide) (fun hr kr Er Ar => ?_)
  obtain ⟨ar, zr⟩ : ∃ z, z = h1.size := ⟨_, rfl⟩
  rw [← zr]
  rw [← zr] at Ar
  refine Run.pure hK (seg := [(12, .astore 4, 2), (14, .aload_n 0, 1), (15, .iload_n 1, 1), (16, .aload 4, 2), (18, .iconst 0, 1), (19, .aload_n 0, 1)]) (by decide +kernel) (pc' := 20) (L' := #[.val (.ref va), .val (.int (0 : Int32)), .val (.int (Int32.ofNat m)), .val (.int (Int32.ofNat m)), .val (.ref ar)]) (S' := [(.ref va), (.int (0 : Int32)), (.ref ar), (.int (0 : Int32)), (.ref va)]) rfl ?_
  refine Run.alen hK (A.ext Er) (by decide +kernel) ?_
  refine Run.pure hK (seg := [(21, .iload_n 1, 1), (22, .isub, 1)]) (by decide +kernel) (pc' := 23) (L' := #[.val (.ref va), .val (.int (0 : Int32)), .val (.int (Int32.ofNat m)), .val (.int (Int32.ofNat m)), .val (.ref ar)]) (S' := [(.int ((Int32.ofNat cap) - (0 : Int32))), (.int (0 : Int32)), (.ref ar), (.int (0 : Int32)), (.ref va)]) rfl ?_
  rw [sub0]
  refine Run.pure hK (seg := [(23, .iload_n 3, 1)]) (by decide +kernel) (pc' := 24) (L' := #[.val (.ref va), .val (.int (0 : Int32)), .val (.int (Int32.ofNat m)), .val (.int (Int32.ofNat m)), .val (.ref ar)]) (S' := [(.int (Int32.ofNat m)), (.int (Int32.ofNat cap)), (.int (0 : Int32)), (.ref ar), (.int (0 : Int32)), (.ref va)]) rfl ?_
  refine Run.static hK (index := 304) (y := (⟨"java/lang/Math", "min", "(II)I"⟩ : MethodName)) (Wt := 4) (kc := 0) (ks := 0) (hw _ (List.mem_of_getElem? (i := 125) rfl)) (hw _ (List.mem_of_getElem? (i := 126) rfl)) (hw _ (List.mem_of_getElem? (i := 117) rfl)) (hw _ (List.mem_of_getElem? (i := 127) rfl)) (by decide) (W' := []) (fun _ q => nomatch q) (Ctr.cal (c_min G (Int32.ofNat cap) (Int32.ofNat m) hr) (hw _ (List.mem_of_getElem? (i := 127) rfl)) (hw _ (List.mem_of_getElem? (i := 117) rfl)) (by decide) (by decide)) rfl (argsL := [(.int (Int32.ofNat cap)), (.int (Int32.ofNat m))]) (rest := [(.int (0 : Int32)), (.ref ar), (.int (0 : Int32)), (.ref va)]) (lenOf pd_min rfl) rfl (Nat.le_of_ble_eq_true rfl) (by decide +kernel) (by decide) (by decide) (fun v2 h2 q2 n2 => ?_)
  obtain ⟨rfl, rfl⟩ := q2
  rw [if_pos ((ofN_lt2 (by omega) (by omega)).mpr hlt)]
  have P : Arv Z h2 ar kr .byte (Int32.ofNat m) (List.replicate m (.int 0)) (.int 0) := Ar.pad (fun i => by rw [List.getD_eq_getElem?_getD, List.getElem?_replicate]; split <;> rfl)
  refine Run.cpy hK (index := 150) (hw _ (List.mem_of_getElem? (i := 128) rfl)) (hw _ (List.mem_of_getElem? (i := 104) rfl)) (hw _ (List.mem_of_getElem? (i := 102) rfl)) (hw _ (List.mem_of_getElem? (i := 103) rfl)) (A.ext Er) P rfl (by decide) (by decide) (ofN_nn (by omega)) (by rw [ofN_nat (by omega), ofN_nat (by omega)]; show 0 + _ ≤ _; omega) (by show 0 + _ ≤ _; omega) (us := (List.range m).map fun i => vs.getD (0 + i) (.int 0)) (by rw [ofN_nat (by omega)]; rfl) (by rw [ofN_nat (by omega), List.length_replicate]; show 0 + _ ≤ _; omega) (by rw [zr]; exact hO.1) (sfW (List.mem_cons_self ..)) rfl (by decide +kernel) (by decide) (Wt := 0) (Nat.le_of_ble_eq_true rfl) (by decide) (fun h3 K3 B3 => ?_)
  have Af : Arv Z h3 ar kr .byte (Int32.ofNat m) vs (.int 0) := by
    rw [ofN_nat (by omega : m ≤ 4000)] at B3
    exact B3.pad (cp_pad' (.int 0) (by omega) (Nat.le_refl _))
  refine Run.pure hK (seg := [(30, .aload 4, 2)]) (by decide +kernel) (pc' := 32) (L' := #[.val (.ref va), .val (.int (0 : Int32)), .val (.int (Int32.ofNat m)), .val (.int (Int32.ofNat m)), .val (.ref ar)]) (S' := [(.ref ar)]) rfl ?_
  exact Run.retw hK (i := .areturn) rfl (Or.inr (Or.inr (Or.inr (Or.inr ⟨rfl, rfl, rfl⟩)))) (by decide +kernel) (by decide) (by decide) ⟨ar, kr, rfl, Af, ext_keep Er K3 (fun x hx => by cases List.mem_singleton.mp hx; rw [zr]; exact Nat.le_refl _)⟩
set_option maxRecDepth 65536 in
set_option maxHeartbeats 40000000 in
theorem c_cor {l : Launch} {Z : State} {a0 : Array Value} {z0 : Int32} {fm : Value} (G : Env1 Z a0 z0 fm) (va : Addr) (m : Nat) {vs : List Value} {k : ClassId} {cap : Nat} (h : Heap) (A : Arv Z h va k .byte (Int32.ofNat cap) vs (.int 0)) (hm : vs.length = m) (hlt : m < cap) (hcap : cap ≤ 4000) (hC : m ≤ 44) : Ctr Z consts_1 true l [] (⟨"java/util/Arrays", "copyOfRange", "([BII)[B"⟩ : MethodName) jdk_65_method_132_code 3 (some (.array .byte)) ({ frames := 2, cells := 1, slots := 44, locals := 44 } : Room) #[(.ref va), (.int (0 : Int32)), (.int (Int32.ofNat m))] h [] (fun v h' => ∃ a k', v = some (.ref a) ∧ Arv Z h' a k' .byte (Int32.ofNat m) vs (.int 0) ∧ Ext h h') := by
  obtain ⟨hw, hEL, O2, P5, O4⟩ := id G
  refine Ctr.of_run (a0 := a0) (L0 := #[.val (.ref va), .val (.int (0 : Int32)), .val (.int (Int32.ofNat m))]) (plainFor_of_name pn_ar) hEL (by first | (simp [argsToLocals, Value.category, maxLocals]; done) | rfl) (fun K hK => ?_)
  refine Run.pure hK (seg := [(0, .iload_n 1, 1)]) (by decide +kernel) (pc' := 1) (L' := #[.val (.ref va), .val (.int (0 : Int32)), .val (.int (Int32.ofNat m))]) (S' := [(.int (0 : Int32))]) rfl ?_
  refine Run.ifz hK (cd := .ne) (o := 9) (by decide +kernel) (by decide) (pc' := 10) rfl (fun q => by replace q := (h_ne _ _).1 q; exact absurd rfl q) (fun _ => ?_)
  refine Run.pure hK (seg := [(4, .iload_n 2, 1), (5, .aload_n 0, 1)]) (by decide +kernel) (pc' := 6) (L' := #[.val (.ref va), .val (.int (0 : Int32)), .val (.int (Int32.ofNat m))]) (S' := [(.ref va), (.int (Int32.ofNat m))]) rfl ?_
  refine Run.alen hK A (by decide +kernel) ?_
  refine Run.icmp hK (cd := .eq) (o := 10) (by decide +kernel) (by decide) (pc' := 17) rfl (fun q => by replace q := (h_eq _ _).1 q; have z := congrArg Int32.toInt q; rw [ofN (by omega), ofN (by omega)] at z; omega) (fun _ => ?_)
  refine Run.pure hK (seg := [(10, .aload_n 0, 1), (11, .iload_n 1, 1), (12, .iload_n 2, 1)]) (by decide +kernel) (pc' := 13) (L' := #[.val (.ref va), .val (.int (0 : Int32)), .val (.int (Int32.ofNat m))]) (S' := [(.int (Int32.ofNat m)), (.int (0 : Int32)), (.ref va)]) rfl ?_
  refine Run.static hK (index := 339) (y := (⟨"java/util/Arrays", "copyOfRangeByte", "([BII)[B"⟩ : MethodName)) (Wt := 0) (kc := 1) (ks := 44) (hw _ (List.mem_of_getElem? (i := 163) rfl)) (hw _ (List.mem_of_getElem? (i := 164) rfl)) (hw _ (List.mem_of_getElem? (i := 123) rfl)) (hw _ (List.mem_of_getElem? (i := 165) rfl)) (by decide) (W' := []) (fun _ q => nomatch q) (Ctr.cal (c_crb G va m h A hm hlt hcap hC) (hw _ (List.mem_of_getElem? (i := 165) rfl)) (hw _ (List.mem_of_getElem? (i := 123) rfl)) (by decide) (by decide)) rfl (argsL := [(.ref va), (.int (0 : Int32)), (.int (Int32.ofNat m))]) (rest := []) (lenOf pd_cor rfl) rfl (Nat.le_of_ble_eq_true rfl) (by decide +kernel) (by decide) (by decide) (fun v1 h1 q1 n1 => ?_)
  obtain ⟨a1, k1, rfl, A1, E1⟩ := q1
  exact Run.retw hK (i := .areturn) rfl (Or.inr (Or.inr (Or.inr (Or.inr ⟨rfl, rfl, rfl⟩)))) (by decide +kernel) (by decide) (by decide) ⟨a1, k1, rfl, A1, E1⟩
set_option maxRecDepth 65536 in
set_option maxHeartbeats 40000000 in
theorem c_sv {l : Launch} {Z : State} {a0 : Array Value} {z0 : Int32} {fm : Value} (G : Env1 Z a0 z0 fm) (x0 b va : Addr) {cs : List Int32} {k : ClassId} {cap : Nat} (h : Heap) (hx0 : Z.heap.size ≤ x0) (X : Exa Z h x0 "java/lang/String") {v0 c0 : Value} (Fv : Fld Z h x0 "java/lang/String" "value" "[B" v0) (Fc : Fld Z h x0 "java/lang/String" "coder" "B" c0) (Sb : SBo Z h b va k cap cs) (hlt : cs.length < cap) (hC : cs.length ≤ 44) : Ctr Z consts_1 true l [] (⟨"java/lang/String", "<init>", "(Ljava/lang/AbstractStringBuilder;Ljava/lang/Void;)V"⟩ : MethodName) jdk_42_method_150_code 5 none ({ frames := 3, cells := 1, slots := 44, locals := 70 } : Room) #[(.ref x0), (.ref b), .null] h [x0] (fun v h' => v = none ∧ Str Z h' x0 cs ∧ Keep h h' [x0]) := by
  obtain ⟨hw, hEL, O2, P5, O4⟩ := id G
  refine Ctr.of_run (a0 := a0) (L0 := #[.val (.ref x0), .val (.ref b), .val .null, .unset, .unset]) (plainFor_of_name pn_str) hEL (by first | (simp [argsToLocals, Value.category, maxLocals]; done) | rfl) (fun K hK => ?_)
  have SX := Sb.1
  obtain ⟨-, -, -, -, Av, -, -, -, hcap, hb⟩ := id Sb
  have nv : va ≠ x0 := (X.neArv Av (hw _ (List.mem_of_getElem? (i := 1) rfl))).symm
  refine Run.pure hK (seg := [(0, .aload_n 0, 1)]) (by decide +kernel) (pc' := 1) (L' := #[.val (.ref x0), .val (.ref b), .val .null, .unset, .unset]) (S' := [(.ref x0)]) rfl ?_
  refine Run.initobj hK (index := 1) (hw _ (List.mem_of_getElem? (i := 11) rfl)) (hw _ (List.mem_of_getElem? (i := 12) rfl)) (hw _ (List.mem_of_getElem? (i := 13) rfl)) rfl (by decide +kernel) (by decide) (Wt := 0) (Nat.le_of_ble_eq_true rfl) (by decide) ?_
  refine Run.pure hK (seg := [(4, .aload_n 1, 1)]) (by decide +kernel) (pc' := 5) (L' := #[.val (.ref x0), .val (.ref b), .val .null, .unset, .unset]) (S' := [(.ref b)]) rfl ?_
  refine Run.virtual hK (index := 552) (y := (⟨"java/lang/AbstractStringBuilder", "getValue", "()[B"⟩ : MethodName)) (z := (⟨"java/lang/AbstractStringBuilder", "getValue", "()[B"⟩ : MethodName)) (C := "java/lang/StringBuilder") (Wt := 0) (kc := 0) (ks := 0) (hw _ (List.mem_of_getElem? (i := 142) rfl)) (hw _ (List.mem_of_getElem? (i := 143) rfl)) (nfS (hw _ (List.mem_of_getElem? (i := 145) rfl))) (hw _ (List.mem_of_getElem? (i := 145) rfl)) (hw _ (List.mem_of_getElem? (i := 144) rfl)) (by decide) (a := b) SX (W' := []) (fun _ q => nomatch q) (Ctr.cal (c_gv G b va h Sb) (hw _ (List.mem_of_getElem? (i := 146) rfl)) (hw _ (List.mem_of_getElem? (i := 50) rfl)) (by decide) (by decide)) rfl (argsL := []) (rest := []) (lenOf pd_gv rfl) rfl (Nat.le_of_ble_eq_true rfl) (by decide +kernel) (by decide) (by decide) (fun v1 h1 q1 n1 => ?_)
  obtain ⟨rfl, rfl⟩ := q1
  refine Run.pure hK (seg := [(8, .astore_n 3, 1), (9, .aload_n 1, 1)]) (by decide +kernel) (pc' := 10) (L' := #[.val (.ref x0), .val (.ref b), .val .null, .val (.ref va), .unset]) (S' := [(.ref b)]) rfl ?_
  refine Run.virtual hK (index := 549) (y := (⟨"java/lang/AbstractStringBuilder", "length", "()I"⟩ : MethodName)) (z := (⟨"java/lang/StringBuilder", "length", "()I"⟩ : MethodName)) (C := "java/lang/StringBuilder") (Wt := 0) (kc := 0) (ks := 0) (hw _ (List.mem_of_getElem? (i := 147) rfl)) (hw _ (List.mem_of_getElem? (i := 148) rfl)) (nfO (hw _ (List.mem_of_getElem? (i := 83) rfl)) (hw _ (List.mem_of_getElem? (i := 81) rfl)) rfl) (hw _ (List.mem_of_getElem? (i := 150) rfl)) (hw _ (List.mem_of_getElem? (i := 151) rfl)) (by decide) (a := b) SX (W' := []) (fun _ q => nomatch q) (Ctr.cal (c_sl G b va h1 Sb) (hw _ (List.mem_of_getElem? (i := 152) rfl)) (hw _ (List.mem_of_getElem? (i := 42) rfl)) (by decide) (by decide)) rfl (argsL := []) (rest := []) (lenOf pd_len rfl) rfl (Nat.le_of_ble_eq_true rfl) (by decide +kernel) (by decide) (by decide) (fun v2 h2 q2 n2 => ?_)
  obtain ⟨rfl, rfl⟩ := q2
  refine Run.pure hK (seg := [(13, .istore 4, 2), (15, .aload_n 1, 1)]) (by decide +kernel) (pc' := 16) (L' := #[.val (.ref x0), .val (.ref b), .val .null, .val (.ref va), .val (.int (Int32.ofNat cs.length))]) (S' := [(.ref b)]) rfl ?_
  refine Run.virtual hK (index := 1047) (y := (⟨"java/lang/AbstractStringBuilder", "isLatin1", "()Z"⟩ : MethodName)) (z := (⟨"java/lang/AbstractStringBuilder", "isLatin1", "()Z"⟩ : MethodName)) (C := "java/lang/StringBuilder") (Wt := 0) (kc := 0) (ks := 0) (hw _ (List.mem_of_getElem? (i := 155) rfl)) (hw _ (List.mem_of_getElem? (i := 156) rfl)) (nfS (hw _ (List.mem_of_getElem? (i := 158) rfl))) (hw _ (List.mem_of_getElem? (i := 158) rfl)) (hw _ (List.mem_of_getElem? (i := 157) rfl)) (by decide) (a := b) SX (W' := []) (fun _ q => nomatch q) (Ctr.cal (c_il G b va h2 Sb) (hw _ (List.mem_of_getElem? (i := 159) rfl)) (hw _ (List.mem_of_getElem? (i := 50) rfl)) (by decide) (by decide)) rfl (argsL := []) (rest := []) (lenOf pd_z rfl) rfl (Nat.le_of_ble_eq_true rfl) (by decide +kernel) (by decide) (by decide) (fun v3 h3 q3 n3 => ?_)
  obtain ⟨rfl, rfl⟩ := q3
  refine Run.ifz hK (cd := .eq) (o := 22) (by decide +kernel) (by decide) (pc' := 41) rfl (fun q => by replace q := (h_eq _ _).1 q; exact absurd q (by decide)) (fun _ => ?_)
  refine Run.pure hK (seg := [(22, .aload_n 0, 1), (23, .iconst 0, 1)]) (by decide +kernel) (pc' := 24) (L' := #[.val (.ref x0), .val (.ref b), .val .null, .val (.ref va), .val (.int (Int32.ofNat cs.length))]) (S' := [(.int (0 : Int32)), (.ref x0)]) rfl ?_
  refine Run.putf hK (index := 15) (host := "") (Or.inl (hw _ (List.mem_of_getElem? (i := 21) rfl))) Via.refl Fc X (Or.inr ⟨(hw _ (List.mem_of_getElem? (i := 17) rfl)), rfl, rfl⟩) (hw _ (List.mem_of_getElem? (i := 1) rfl)) (ty := .byte) (by decide) rfl rfl hx0 (sfW (List.mem_singleton.mpr rfl)) (by decide +kernel) (fun h4 W4 => ?_)
  replace Fv := Fv.other W4 (Or.inr (slot_ne (Or.inr (hw _ (List.mem_of_getElem? (i := 16) rfl))) (Or.inr (hw _ (List.mem_of_getElem? (i := 17) rfl))) (by decide) (by decide : parseFieldDescriptor "[B" = some (.array .byte)) (by decide : parseFieldDescriptor "B" = some .byte)))
  replace Fc := Fc.same W4
  replace X := X.wr W4
  have A4 := Av.other W4 nv
  refine Run.pure hK (seg := [(27, .aload_n 0, 1), (28, .aload_n 3, 1), (29, .iconst 0, 1), (30, .iload 4, 2)]) (by decide +kernel) (pc' := 32) (L' := #[.val (.ref x0), .val (.ref b), .val .null, .val (.ref va), .val (.int (Int32.ofNat cs.length))]) (S' := [(.int (Int32.ofNat cs.length)), (.int (0 : Int32)), (.ref va), (.ref x0)]) rfl ?_
  refine Run.static hK (index := 54) (y := (⟨"java/util/Arrays", "copyOfRange", "([BII)[B"⟩ : MethodName)) (Wt := 1) (kc := 1) (ks := 44) (hw _ (List.mem_of_getElem? (i := 160) rfl)) (hw _ (List.mem_of_getElem? (i := 161) rfl)) (hw _ (List.mem_of_getElem? (i := 123) rfl)) (hw _ (List.mem_of_getElem? (i := 162) rfl)) (by decide) (W' := []) (fun _ q => nomatch q) (Ctr.cal (c_cor G va cs.length h4 A4 (lens cs) hlt hcap hC) (hw _ (List.mem_of_getElem? (i := 162) rfl)) (hw _ (List.mem_of_getElem? (i := 123) rfl)) (by decide) (by decide)) rfl (argsL := [(.ref va), (.int (0 : Int32)), (.int (Int32.ofNat cs.length))]) (rest := [(.ref x0)]) (lenOf pd_cor rfl) rfl (Nat.le_of_ble_eq_true rfl) (by decide +kernel) (by decide) (by decide) (fun v5 h5 q5 n5 => ?_)
  obtain ⟨a5, k5, rfl, A5, E5⟩ := q5
  replace Fv := Fv.ext E5
  replace Fc := Fc.ext E5
  replace X := X.ext E5
  have n5 : a5 ≠ x0 := (X.neArv A5 (hw _ (List.mem_of_getElem? (i := 1) rfl))).symm
  refine Run.putf hK (index := 9) (host := "") (Or.inl (hw _ (List.mem_of_getElem? (i := 20) rfl))) Via.refl Fv X (Or.inr ⟨(hw _ (List.mem_of_getElem? (i := 16) rfl)), rfl, rfl⟩) (hw _ (List.mem_of_getElem? (i := 1) rfl)) (ty := (.array .byte)) (by decide) rfl rfl hx0 (sfW (List.mem_singleton.mpr rfl)) (by decide +kernel) (fun h6 W6 => ?_)
  replace Fv := Fv.same W6
  replace Fc := Fc.other W6 (Or.inr (slot_ne (Or.inr (hw _ (List.mem_of_getElem? (i := 17) rfl))) (Or.inr (hw _ (List.mem_of_getElem? (i := 16) rfl))) (by decide) (by decide : parseFieldDescriptor "B" = some .byte) (by decide : parseFieldDescriptor "[B" = some (.array .byte))))
  replace X := X.wr W6
  replace A5 := A5.other W6 n5
  refine Run.pure hK (seg := [(38, .goto 59, 3)]) (by decide +kernel) (pc' := 97) (L' := #[.val (.ref x0), .val (.ref b), .val .null, .val (.ref va), .val (.int (Int32.ofNat cs.length))]) (S' := []) rfl ?_
  exact Run.retv hK (by decide +kernel) (by decide) (by decide) ⟨rfl, ⟨X, Fc, ⟨a5, k5, Fv, A5⟩, hb, by omega⟩, ((((Keep.refl _ [x0]).wr W4 (Or.inl (List.mem_singleton.mpr rfl))).ext E5).wr W6 (Or.inl (List.mem_singleton.mpr rfl)))⟩
set_option maxRecDepth 65536 in
set_option maxHeartbeats 40000000 in
theorem c_sb1 {l : Launch} {Z : State} {a0 : Array Value} {z0 : Int32} {fm : Value} (G : Env1 Z a0 z0 fm) (x0 b va : Addr) {cs : List Int32} {k : ClassId} {cap : Nat} (h : Heap) (hx0 : Z.heap.size ≤ x0) (X : Exa Z h x0 "java/lang/String") {v0 c0 : Value} (Fv : Fld Z h x0 "java/lang/String" "value" "[B" v0) (Fc : Fld Z h x0 "java/lang/String" "coder" "B" c0) (Sb : SBo Z h b va k cap cs) (hlt : cs.length < cap) (hC : cs.length ≤ 44) : Ctr Z consts_1 true l [] (⟨"java/lang/String", "<init>", "(Ljava/lang/StringBuilder;)V"⟩ : MethodName) jdk_42_method_53_code 2 none ({ frames := 4, cells := 1, slots := 44, locals := 90 } : Room) #[(.ref x0), (.ref b)] h [x0] (fun v h' => v = none ∧ Str Z h' x0 cs ∧ Keep h h' [x0]) := by
  obtain ⟨hw, hEL, O2, P5, O4⟩ := id G
  refine Ctr.of_run (a0 := a0) (L0 := #[.val (.ref x0), .val (.ref b)]) (plainFor_of_name pn_str) hEL (by first | (simp [argsToLocals, Value.category, maxLocals]; done) | rfl) (fun K hK => ?_)
  refine Run.pure hK (seg := [(0, .aload_n 0, 1), (1, .aload_n 1, 1), (2, .aconst_null, 1)]) (by decide +kernel) (pc' := 3) (L' := #[.val (.ref x0), .val (.ref b)]) (S' := [.null, (.ref b), (.ref x0)]) rfl ?_
  refine Run.special hK (index := 489) (y := (⟨"java/lang/String", "<init>", "(Ljava/lang/AbstractStringBuilder;Ljava/lang/Void;)V"⟩ : MethodName)) (Wt := 0) (kc := 1) (ks := 44) rfl (hw _ (List.mem_of_getElem? (i := 139) rfl)) (hw _ (List.mem_of_getElem? (i := 140) rfl)) (hw _ (List.mem_of_getElem? (i := 141) rfl)) (by decide) (a := x0) (fun _ q => q) (Ctr.cal (c_sv G x0 b va h hx0 X Fv Fc Sb hlt hC) (hw _ (List.mem_of_getElem? (i := 141) rfl)) (hw _ (List.mem_of_getElem? (i := 2) rfl)) (by decide) (by decide)) rfl (argsL := [(.ref b), .null]) (rest := []) (lenOf pd_sv rfl) rfl (Nat.le_of_ble_eq_true rfl) (by decide +kernel) (by decide) (by decide) (fun v1 h1 q1 n1 => ?_)
  obtain ⟨rfl, q⟩ := q1
  exact Run.retv hK (by decide +kernel) (by decide) (by decide) ⟨rfl, q⟩
set_option maxRecDepth 65536 in
set_option maxHeartbeats 40000000 in
theorem c_ts {l : Launch} {Z : State} {a0 : Array Value} {z0 : Int32} {fm : Value} (G : Env1 Z a0 z0 fm) (x0 va : Addr) {cs : List Int32} {k : ClassId} {cap : Nat} (h : Heap) (Sb : SBo Z h x0 va k cap cs) (hlt : cs.length < cap) (hC : cs.length ≤ 44) : Ctr Z consts_1 true l [] (⟨"java/lang/StringBuilder", "toString", "()Ljava/lang/String;"⟩ : MethodName) jdk_67_method_42_code 1 (some (.object "java/lang/String")) ({ frames := 5, cells := 2, slots := 48, locals := 105 } : Room) #[(.ref x0)] h [] (fun v h' => ∃ a, v = some (.ref a) ∧ Str Z h' a cs ∧ Ext h h') := by
  obtain ⟨hw, hEL, O2, P5, O4⟩ := id G
  refine Ctr.of_run (a0 := a0) (L0 := #[.val (.ref x0)]) (plainFor_of_name pn_sb) hEL (by first | (simp [argsToLocals, Value.category, maxLocals]; done) | rfl) (fun K hK => ?_)
  refine Run.old (fun hO => ?_)
  refine Run.new hK (index := 18) (C := "java/lang/String") (n := 4) (hw _ (List.mem_of_getElem? (i := 135) rfl)) (hw _ (List.mem_of_getElem? (i := 1) rfl)) (hw _ (List.mem_of_getElem? (i := 2) rfl)) (by decide +kernel) (by decide) (by decide) (fun hs Es Xs Ds => ?_)
  obtain ⟨as_, zs⟩ : ∃ z, z = h.size := ⟨_, rfl⟩
  rw [← zs]
  rw [← zs] at Xs Ds
  refine Run.pure hK (seg := [(3, .dup, 1), (4, .aload_n 0, 1)]) (by decide +kernel) (pc' := 5) (L' := #[.val (.ref x0)]) (S' := [(.ref x0), (.ref as_), (.ref as_)]) rfl ?_
  have Vs := Ds (Or.inr (hw _ (List.mem_of_getElem? (i := 16) rfl))) (ty := .array .byte) (by decide)
  have Cs := Ds (Or.inr (hw _ (List.mem_of_getElem? (i := 17) rfl))) (ty := .byte) (by decide)
  refine Run.special hK (index := 137) (y := (⟨"java/lang/String", "<init>", "(Ljava/lang/StringBuilder;)V"⟩ : MethodName)) (Wt := 1) (kc := 1) (ks := 44) rfl (hw _ (List.mem_of_getElem? (i := 136) rfl)) (hw _ (List.mem_of_getElem? (i := 137) rfl)) (hw _ (List.mem_of_getElem? (i := 138) rfl)) (by decide) (a := as_) (fun _ q => q) (Ctr.cal (c_sb1 G as_ x0 va hs (by rw [zs]; exact hO.1) Xs Vs Cs (Sb.ext Es) hlt hC) (hw _ (List.mem_of_getElem? (i := 138) rfl)) (hw _ (List.mem_of_getElem? (i := 2) rfl)) (by decide) (by decide)) rfl (argsL := [(.ref x0)]) (rest := [(.ref as_)]) (lenOf pd_sb1 rfl) rfl (Nat.le_of_ble_eq_true rfl) (by decide +kernel) (by decide) (by decide) (fun v1 h1 q1 n1 => ?_)
  obtain ⟨rfl, F1, K1⟩ := q1
  exact Run.retw hK (i := .areturn) rfl (Or.inr (Or.inr (Or.inr (Or.inr ⟨rfl, rfl, rfl⟩)))) (by decide +kernel) (by decide) (by decide) ⟨as_, rfl, F1, ext_keep Es K1 (fun x hx => by cases List.mem_singleton.mp hx; rw [zs]; exact Nat.le_refl _)⟩
theorem pd_nl : parseMethodDescriptor "(III)I" = some ⟨[.int, .int, .int], some .int⟩ := by decide +kernel
theorem pd_nc : parseMethodDescriptor "(I)I" = some ⟨[.int], some .int⟩ := by decide +kernel
theorem pd_cpb : parseMethodDescriptor "([BI)[B" = some ⟨[(.array .byte), .int], some (.array .byte)⟩ := by decide +kernel
theorem pn_as : plainName "jdk/internal/util/ArraysSupport" = true := by first | (simp [plainName, overriddenIn]; done) | decide +kernel
set_option maxRecDepth 65536 in
set_option maxHeartbeats 40000000 in
theorem c_max {l : Launch} {Z : State} {a0 : Array Value} {z0 : Int32} {fm : Value} (G : Env1 Z a0 z0 fm) (x y : Int32) (h : Heap) : Ctr Z consts_1 true l [] (⟨"java/lang/Math", "max", "(II)I"⟩ : MethodName) jdk_29_method_65_code 2 (some .int) ({ frames := 0, cells := 0, slots := 0, locals := 0 } : Room) #[(.int x), (.int y)] h [] (fun v h' => h' = h ∧ v = some (.int (if x < y then y else x))) := by
  obtain ⟨hw, hEL, O2, P5, O4⟩ := id G
  refine Ctr.of_run (a0 := a0) (L0 := #[.val (.int x), .val (.int y)]) (Jvm.Free.JP.mathPlain rfl (by decide +kernel)) hEL (by first | (simp [argsToLocals, Value.category, maxLocals]; done) | rfl) (fun K hK => ?_)
  refine Run.pure hK (seg := [(0, .iload_n 0, 1), (1, .iload_n 1, 1)]) (by decide +kernel) (pc' := 2) (L' := #[.val (.int x), .val (.int y)]) (S' := [(.int y), (.int x)]) rfl ?_
  refine Run.icmp hK (cd := .lt) (o := 7) (by decide +kernel) (by decide) (pc' := 9) rfl (fun q => ?_) (fun q => ?_)
  · replace q := (h_lt _ _).1 q
    refine Run.pure hK (seg := [(9, .iload_n 1, 1)]) (by decide +kernel) (pc' := 10) (L' := #[.val (.int x), .val (.int y)]) (S' := [(.int y)]) rfl ?_
    exact Run.retw hK (i := .ireturn) rfl (Or.inl ⟨rfl, Or.inl rfl, _, rfl⟩) (by decide +kernel) (by decide) (by decide) ⟨rfl, by rw [if_pos q]⟩
  · replace q := (h_lt _ _).2 q
    refine Run.pure hK (seg := [(5, .iload_n 0, 1), (6, .goto 4, 3)]) (by decide +kernel) (pc' := 10) (L' := #[.val (.int x), .val (.int y)]) (S' := [(.int x)]) rfl ?_
    exact Run.retw hK (i := .ireturn) rfl (Or.inl ⟨rfl, Or.inl rfl, _, rfl⟩) (by decide +kernel) (by decide) (by decide) ⟨rfl, by rw [if_neg q]⟩
set_option maxRecDepth 65536 in
set_option maxHeartbeats 40000000 in
theorem c_nl {l : Launch} {Z : State} {a0 : Array Value} {z0 : Int32} {fm : Value} (G : Env1 Z a0 z0 fm) (a b d : Nat) (h : Heap) (hbd : b ≤ d) (h0 : 0 < a + d) (hm : a + d ≤ 4000) : Ctr Z consts_1 true l [] (⟨"jdk/internal/util/ArraysSupport", "newLength", "(III)I"⟩ : MethodName) jdk_48_method_27_code 4 (some .int) ({ frames := 1, cells := 0, slots := 0, locals := 16 } : Room) #[(.int (Int32.ofNat a)), (.int (Int32.ofNat b)), (.int (Int32.ofNat d))] h [] (fun v h' => h' = h ∧ v = some (.int (Int32.ofNat (a + d)))) := by
  obtain ⟨hw, hEL, O2, P5, O4⟩ := id G
  refine Ctr.of_run (a0 := a0) (L0 := #[.val (.int (Int32.ofNat a)), .val (.int (Int32.ofNat b)), .val (.int (Int32.ofNat d)), .unset]) (plainFor_of_name pn_as) hEL (by first | (simp [argsToLocals, Value.category, maxLocals]; done) | rfl) (fun K hK => ?_)
  refine Run.pure hK (seg := [(0, .iload_n 0, 1), (1, .iload_n 1, 1), (2, .iload_n 2, 1)]) (by decide +kernel) (pc' := 3) (L' := #[.val (.int (Int32.ofNat a)), .val (.int (Int32.ofNat b)), .val (.int (Int32.ofNat d)), .unset]) (S' := [(.int (Int32.ofNat d)), (.int (Int32.ofNat b)), (.int (Int32.ofNat a))]) rfl ?_
  refine Run.static hK (index := 194) (y := (⟨"java/lang/Math", "max", "(II)I"⟩ : MethodName)) (Wt := 1) (kc := 0) (ks := 0) (hw _ (List.mem_of_getElem? (i := 115) rfl)) (hw _ (List.mem_of_getElem? (i := 116) rfl)) (hw _ (List.mem_of_getElem? (i := 117) rfl)) (hw _ (List.mem_of_getElem? (i := 118) rfl)) (by decide) (W' := []) (fun _ q => nomatch q) (Ctr.cal (c_max G (Int32.ofNat b) (Int32.ofNat d) h) (hw _ (List.mem_of_getElem? (i := 118) rfl)) (hw _ (List.mem_of_getElem? (i := 117) rfl)) (by decide) (by decide)) rfl (argsL := [(.int (Int32.ofNat b)), (.int (Int32.ofNat d))]) (rest := [(.int (Int32.ofNat a))]) (lenOf pd_min rfl) rfl (Nat.le_of_ble_eq_true rfl) (by decide +kernel) (by decide) (by decide) (fun v1 h1 q1 n1 => ?_)
  obtain ⟨rfl, rfl⟩ := q1
  rw [max_val hbd (by omega)]
  refine Run.pure hK (seg := [(6, .iadd, 1)]) (by decide +kernel) (pc' := 7) (L' := #[.val (.int (Int32.ofNat a)), .val (.int (Int32.ofNat b)), .val (.int (Int32.ofNat d)), .unset]) (S' := [(.int ((Int32.ofNat a) + (Int32.ofNat d)))]) rfl ?_
  rw [ofN_add hm]
  refine Run.pure hK (seg := [(7, .istore_n 3, 1), (8, .iconst 0, 1), (9, .iload_n 3, 1)]) (by decide +kernel) (pc' := 10) (L' := #[.val (.int (Int32.ofNat a)), .val (.int (Int32.ofNat b)), .val (.int (Int32.ofNat d)), .val (.int (Int32.ofNat (a + d)))]) (S' := [(.int (Int32.ofNat (a + d))), (.int (0 : Int32))]) rfl ?_
  refine Run.icmp hK (cd := .ge) (o := 11) (by decide +kernel) (by decide) (pc' := 21) rfl (fun q => by replace q := (h_ge _ _).1 q; exact absurd (show (0 : Int32) < Int32.ofNat (a + d) by rw [Int32.lt_iff_toInt_lt, ofN hm, tI0]; omega) q) (fun _ => ?_)
  refine Run.pure hK (seg := [(13, .iload_n 3, 1)]) (by decide +kernel) (pc' := 14) (L' := #[.val (.int (Int32.ofNat a)), .val (.int (Int32.ofNat b)), .val (.int (Int32.ofNat d)), .val (.int (Int32.ofNat (a + d)))]) (S' := [(.int (Int32.ofNat (a + d)))]) rfl ?_
  refine Run.ldci hK (index := 200) (hw _ (List.mem_of_getElem? (i := 119) rfl)) (by decide +kernel) ?_
  refine Run.icmp hK (cd := .gt) (o := 5) (by decide +kernel) (by decide) (pc' := 21) rfl (fun q => by replace q := (h_gt _ _).1 q; rw [Int32.lt_iff_toInt_lt, ofN hm, show (2147483639 : Int32).toInt = 2147483639 from rfl] at q; omega) (fun _ => ?_)
  refine Run.pure hK (seg := [(19, .iload_n 3, 1)]) (by decide +kernel) (pc' := 20) (L' := #[.val (.int (Int32.ofNat a)), .val (.int (Int32.ofNat b)), .val (.int (Int32.ofNat d)), .val (.int (Int32.ofNat (a + d)))]) (S' := [(.int (Int32.ofNat (a + d)))]) rfl ?_
  exact Run.retw hK (i := .ireturn) rfl (Or.inl ⟨rfl, Or.inl rfl, _, rfl⟩) (by decide +kernel) (by decide) (by decide) ⟨rfl, rfl⟩
set_option maxRecDepth 65536 in
set_option maxHeartbeats 40000000 in
theorem c_nc {l : Launch} {Z : State} {a0 : Array Value} {z0 : Int32} {fm : Value} (G : Env1 Z a0 z0 fm) (x0 va : Addr) (m : Nat) {ds : List Int32} {k : ClassId} {cap : Nat} (h : Heap) (Sb : SBo Z h x0 va k cap ds) (hm : cap < m) (hm2 : m ≤ cap + (cap + 2)) (hc : cap ≤ 1000) : Ctr Z consts_1 true l [] (⟨"java/lang/AbstractStringBuilder", "newCapacity", "(I)I"⟩ : MethodName) jdk_68_method_10_code 6 (some .int) ({ frames := 2, cells := 0, slots := 0, locals := 36 } : Room) #[(.ref x0), (.int (Int32.ofNat m))] h [] (fun v h' => h' = h ∧ v = some (.int (Int32.ofNat (cap + (cap + 2))))) := by
  obtain ⟨hw, hEL, O2, P5, O4⟩ := id G
  refine Ctr.of_run (a0 := a0) (L0 := #[.val (.ref x0), .val (.int (Int32.ofNat m)), .unset, .unset, .unset, .unset]) (plainFor_of_name pn_asb) hEL (by first | (simp [argsToLocals, Value.category, maxLocals]; done) | rfl) (fun K hK => ?_)
  obtain ⟨X, Fv, Fc, Fn, Av, -⟩ := Sb
  refine Run.pure hK (seg := [(0, .aload_n 0, 1)]) (by decide +kernel) (pc' := 1) (L' := #[.val (.ref x0), .val (.int (Int32.ofNat m)), .unset, .unset, .unset, .unset]) (S' := [(.ref x0)]) rfl ?_
  refine Run.getf hK (index := 15) (host := "") (Or.inl (hw _ (List.mem_of_getElem? (i := 54) rfl))) Via.refl Fv (by decide +kernel) ?_
  refine Run.alen hK Av (by decide +kernel) ?_
  refine Run.pure hK (seg := [(5, .istore_n 2, 1), (6, .iload_n 1, 1), (7, .aload_n 0, 1)]) (by decide +kernel) (pc' := 8) (L' := #[.val (.ref x0), .val (.int (Int32.ofNat m)), .val (.int (Int32.ofNat cap)), .unset, .unset, .unset]) (S' := [(.ref x0), (.int (Int32.ofNat m))]) rfl ?_
  refine Run.getf hK (index := 22) (host := "") (Or.inl (hw _ (List.mem_of_getElem? (i := 56) rfl))) Via.refl Fc (by decide +kernel) ?_
  refine Run.pure hK (seg := [(11, .ishl, 1)]) (by decide +kernel) (pc' := 12) (L' := #[.val (.ref x0), .val (.int (Int32.ofNat m)), .val (.int (Int32.ofNat cap)), .unset, .unset, .unset]) (S' := [(.int ((Int32.ofNat m) <<< ((0 : Int32) &&& 31)))]) rfl ?_
  rw [shl0]
  refine Run.pure hK (seg := [(12, .istore_n 3, 1), (13, .iload_n 3, 1), (14, .iload_n 2, 1), (15, .isub, 1)]) (by decide +kernel) (pc' := 16) (L' := #[.val (.ref x0), .val (.int (Int32.ofNat m)), .val (.int (Int32.ofNat cap)), .val (.int (Int32.ofNat m)), .unset, .unset]) (S' := [(.int ((Int32.ofNat m) - (Int32.ofNat cap)))]) rfl ?_
  rw [ofN_sub (by omega) (by omega)]
  refine Run.pure hK (seg := [(16, .istore 4, 2), (18, .iload_n 2, 1), (19, .iload 4, 2), (21, .iload_n 2, 1), (22, .iconst 2, 1), (23, .aload_n 0, 1)]) (by decide +kernel) (pc' := 24) (L' := #[.val (.ref x0), .val (.int (Int32.ofNat m)), .val (.int (Int32.ofNat cap)), .val (.int (Int32.ofNat m)), .val (.int (Int32.ofNat (m - cap))), .unset]) (S' := [(.ref x0), (.int (2 : Int32)), (.int (Int32.ofNat cap)), (.int (Int32.ofNat (m - cap))), (.int (Int32.ofNat cap))]) rfl ?_
  refine Run.getf hK (index := 22) (host := "") (Or.inl (hw _ (List.mem_of_getElem? (i := 56) rfl))) Via.refl Fc (by decide +kernel) ?_
  refine Run.pure hK (seg := [(27, .ishl, 1)]) (by decide +kernel) (pc' := 28) (L' := #[.val (.ref x0), .val (.int (Int32.ofNat m)), .val (.int (Int32.ofNat cap)), .val (.int (Int32.ofNat m)), .val (.int (Int32.ofNat (m - cap))), .unset]) (S' := [(.int ((2 : Int32) <<< ((0 : Int32) &&& 31))), (.int (Int32.ofNat cap)), (.int (Int32.ofNat (m - cap))), (.int (Int32.ofNat cap))]) rfl ?_
  rw [shl0]
  refine Run.pure hK (seg := [(28, .iadd, 1)]) (by decide +kernel) (pc' := 29) (L' := #[.val (.ref x0), .val (.int (Int32.ofNat m)), .val (.int (Int32.ofNat cap)), .val (.int (Int32.ofNat m)), .val (.int (Int32.ofNat (m - cap))), .unset]) (S' := [(.int ((Int32.ofNat cap) + (2 : Int32))), (.int (Int32.ofNat (m - cap))), (.int (Int32.ofNat cap))]) rfl ?_
  rw [show Int32.ofNat cap + (2 : Int32) = Int32.ofNat (cap + 2) from ofN_add (n := cap) (m := 2) (by omega)]
  refine Run.static hK (index := 114) (y := (⟨"jdk/internal/util/ArraysSupport", "newLength", "(III)I"⟩ : MethodName)) (Wt := 0) (kc := 0) (ks := 0) (hw _ (List.mem_of_getElem? (i := 111) rfl)) (hw _ (List.mem_of_getElem? (i := 112) rfl)) (hw _ (List.mem_of_getElem? (i := 113) rfl)) (hw _ (List.mem_of_getElem? (i := 114) rfl)) (by decide) (W' := []) (fun _ q => nomatch q) (Ctr.cal (c_nl G cap (m - cap) (cap + 2) h (by omega) (by omega) (by omega)) (hw _ (List.mem_of_getElem? (i := 114) rfl)) (hw _ (List.mem_of_getElem? (i := 113) rfl)) (by decide) (by decide)) rfl (argsL := [(.int (Int32.ofNat cap)), (.int (Int32.ofNat (m - cap))), (.int (Int32.ofNat (cap + 2)))]) (rest := []) (lenOf pd_nl rfl) rfl (Nat.le_of_ble_eq_true rfl) (by decide +kernel) (by decide) (by decide) (fun v1 h1 q1 n1 => ?_)
  obtain ⟨rfl, rfl⟩ := q1
  refine Run.pure hK (seg := [(32, .istore 5, 2), (34, .iload 5, 2)]) (by decide +kernel) (pc' := 36) (L' := #[.val (.ref x0), .val (.int (Int32.ofNat m)), .val (.int (Int32.ofNat cap)), .val (.int (Int32.ofNat m)), .val (.int (Int32.ofNat (m - cap))), .val (.int (Int32.ofNat (cap + (cap + 2))))]) (S' := [(.int (Int32.ofNat (cap + (cap + 2))))]) rfl ?_
  refine Run.ldci hK (index := 39) (hw _ (List.mem_of_getElem? (i := 120) rfl)) (by decide +kernel) ?_
  refine Run.icmp hK (cd := .ne) (o := 13) (by decide +kernel) (by decide) (pc' := 51) rfl (fun _ => ?_) (fun q => by replace q := (h_ne _ _).2 q; have z := congrArg Int32.toInt q; rw [ofN (by omega), show (2147483647 : Int32).toInt = 2147483647 from rfl] at z; omega)
  refine Run.pure hK (seg := [(51, .iload 5, 2), (53, .aload_n 0, 1)]) (by decide +kernel) (pc' := 54) (L' := #[.val (.ref x0), .val (.int (Int32.ofNat m)), .val (.int (Int32.ofNat cap)), .val (.int (Int32.ofNat m)), .val (.int (Int32.ofNat (m - cap))), .val (.int (Int32.ofNat (cap + (cap + 2))))]) (S' := [(.ref x0), (.int (Int32.ofNat (cap + (cap + 2))))]) rfl ?_
  refine Run.getf hK (index := 22) (host := "") (Or.inl (hw _ (List.mem_of_getElem? (i := 56) rfl))) Via.refl Fc (by decide +kernel) ?_
  refine Run.pure hK (seg := [(57, .ishr, 1)]) (by decide +kernel) (pc' := 58) (L' := #[.val (.ref x0), .val (.int (Int32.ofNat m)), .val (.int (Int32.ofNat cap)), .val (.int (Int32.ofNat m)), .val (.int (Int32.ofNat (m - cap))), .val (.int (Int32.ofNat (cap + (cap + 2))))]) (S' := [(.int ((Int32.ofNat (cap + (cap + 2))) >>> ((0 : Int32) &&& 31)))]) rfl ?_
  rw [shr0]
  exact Run.retw hK (i := .ireturn) rfl (Or.inl ⟨rfl, Or.inl rfl, _, rfl⟩) (by decide +kernel) (by decide) (by decide) ⟨rfl, rfl⟩
set_option maxRecDepth 65536 in
set_option maxHeartbeats 40000000 in
theorem c_cpb {l : Launch} {Z : State} {a0 : Array Value} {z0 : Int32} {fm : Value} (G : Env1 Z a0 z0 fm) (b0 : Addr) (m : Nat) {vs : List Value} {kb : ClassId} {n : Nat} (h : Heap) (A : Arv Z h b0 kb .byte (Int32.ofNat n) vs (.int 0)) (hl : vs.length ≤ n) (hn : n < m) (hm : m ≤ 70) : Ctr Z consts_1 true l [] (⟨"java/util/Arrays", "copyOf", "([BI)[B"⟩ : MethodName) jdk_65_method_121_code 3 (some (.array .byte)) ({ frames := 1, cells := 1, slots := 70, locals := 24 } : Room) #[(.ref b0), (.int (Int32.ofNat m))] h [] (fun v h' => ∃ a k, v = some (.ref a) ∧ a = h.size ∧ Arv Z h' a k .byte (Int32.ofNat m) vs (.int 0) ∧ Ext h h') := by
  obtain ⟨hw, hEL, O2, P5, O4⟩ := id G
  refine Ctr.of_run (a0 := a0) (L0 := #[.val (.ref b0), .val (.int (Int32.ofNat m)), .unset]) (plainFor_of_name pn_ar) hEL (by first | (simp [argsToLocals, Value.category, maxLocals]; done) | rfl) (fun K hK => ?_)
  refine Run.old (fun hO => ?_)
  refine Run.pure hK (seg := [(0, .iload_n 1, 1), (1, .aload_n 0, 1)]) (by decide +kernel) (pc' := 2) (L' := #[.val (.ref b0), .val (.int (Int32.ofNat m)), .unset]) (S' := [(.ref b0), (.int (Int32.ofNat m))]) rfl ?_
  refine Run.alen hK A (by decide +kernel) ?_
  refine Run.icmp hK (cd := .ne) (o := 11) (by decide +kernel) (by decide) (pc' := 14) rfl (fun _ => ?_) (fun q => by replace q := (h_ne _ _).2 q; have z := congrArg Int32.toInt q; rw [ofN (by omega), ofN (by omega)] at z; omega)
  refine Run.pure hK (seg := [(14, .iload_n 1, 1)]) (by decide +kernel) (pc' := 15) (L' := #[.val (.ref b0), .val (.int (Int32.ofNat m)), .unset]) (S' := [(.int (Int32.ofNat m))]) rfl ?_
  refine Run.newarr hK (aty := .byte) (hw _ (List.mem_of_getElem? (i := 15) rfl)) (by decide +kernel) (ofN_nn (by omega)) (cap := 70) (by rw [ofN_nat (by omega)]; exact hm) (by decide) (by decide) (by decide) (fun hr kr Er Ar => ?_)
  obtain ⟨ar, zr⟩ : ∃ z, z = h.size := ⟨_, rfl⟩
  rw [← zr]
  rw [← zr] at Ar
  refine Run.pure hK (seg := [(17, .astore_n 2, 1), (18, .aload_n 0, 1), (19, .iconst 0, 1), (20, .aload_n 2, 1), (21, .iconst 0, 1), (22, .aload_n 0, 1)]) (by decide +kernel) (pc' := 23) (L' := #[.val (.ref b0), .val (.int (Int32.ofNat m)), .val (.ref ar)]) (S' := [(.ref b0), (.int (0 : Int32)), (.ref ar), (.int (0 : Int32)), (.ref b0)]) rfl ?_
  refine Run.alen hK (A.ext Er) (by decide +kernel) ?_
  refine Run.pure hK (seg := [(24, .iload_n 1, 1)]) (by decide +kernel) (pc' := 25) (L' := #[.val (.ref b0), .val (.int (Int32.ofNat m)), .val (.ref ar)]) (S' := [(.int (Int32.ofNat m)), (.int (Int32.ofNat n)), (.int (0 : Int32)), (.ref ar), (.int (0 : Int32)), (.ref b0)]) rfl ?_
  refine Run.static hK (index := 304) (y := (⟨"java/lang/Math", "min", "(II)I"⟩ : MethodName)) (Wt := 4) (kc := 0) (ks := 0) (hw _ (List.mem_of_getElem? (i := 125) rfl)) (hw _ (List.mem_of_getElem? (i := 126) rfl)) (hw _ (List.mem_of_getElem? (i := 117) rfl)) (hw _ (List.mem_of_getElem? (i := 127) rfl)) (by decide) (W' := []) (fun _ q => nomatch q) (Ctr.cal (c_min G (Int32.ofNat n) (Int32.ofNat m) hr) (hw _ (List.mem_of_getElem? (i := 127) rfl)) (hw _ (List.mem_of_getElem? (i := 117) rfl)) (by decide) (by decide)) rfl (argsL := [(.int (Int32.ofNat n)), (.int (Int32.ofNat m))]) (rest := [(.int (0 : Int32)), (.ref ar), (.int (0 : Int32)), (.ref b0)]) (lenOf pd_min rfl) rfl (Nat.le_of_ble_eq_true rfl) (by decide +kernel) (by decide) (by decide) (fun v1 h1 q1 n1 => ?_)
  obtain ⟨rfl, rfl⟩ := q1
  rw [if_neg (fun z => by rw [ofN_lt2 (by omega) (by omega)] at z; omega)]
  have P : Arv Z h1 ar kr .byte (Int32.ofNat m) (List.replicate m (.int 0)) (.int 0) := Ar.pad (fun i => by rw [List.getD_eq_getElem?_getD, List.getElem?_replicate]; split <;> rfl)
  refine Run.cpy hK (index := 150) (hw _ (List.mem_of_getElem? (i := 128) rfl)) (hw _ (List.mem_of_getElem? (i := 104) rfl)) (hw _ (List.mem_of_getElem? (i := 102) rfl)) (hw _ (List.mem_of_getElem? (i := 103) rfl)) (A.ext Er) P rfl (by decide) (by decide) (ofN_nn (by omega)) (by show 0 + _ ≤ _; omega) (by rw [ofN_nat (by omega), ofN_nat (by omega)]; show 0 + _ ≤ _; omega) (us := (List.range n).map fun i => vs.getD (0 + i) (.int 0)) (by rw [ofN_nat (by omega)]; rfl) (by rw [ofN_nat (by omega), List.length_replicate]; show 0 + _ ≤ _; omega) (by rw [zr]; exact hO.1) (sfW (List.mem_cons_self ..)) rfl (by decide +kernel) (by decide) (Wt := 0) (Nat.le_of_ble_eq_true rfl) (by decide) (fun h2 K2 B2 => ?_)
  have Af : Arv Z h2 ar kr .byte (Int32.ofNat m) vs (.int 0) := by
    rw [ofN_nat (by omega : n ≤ 4000)] at B2
    exact B2.pad (cp_pad' (.int 0) hl (by omega))
  have Ef := ext_keep Er K2 (fun x hx => by cases List.mem_singleton.mp hx; rw [zr]; exact Nat.le_refl _)
  refine Run.pure hK (seg := [(31, .aload_n 2, 1)]) (by decide +kernel) (pc' := 32) (L' := #[.val (.ref b0), .val (.int (Int32.ofNat m)), .val (.ref ar)]) (S' := [(.ref ar)]) rfl ?_
  exact Run.retw hK (i := .areturn) rfl (Or.inr (Or.inr (Or.inr (Or.inr ⟨rfl, rfl, rfl⟩)))) (by decide +kernel) (by decide) (by decide) ⟨ar, kr, rfl, by first | rfl | exact zr, Af, Ef⟩
set_option maxRecDepth 65536 in
set_option maxHeartbeats 40000000 in
theorem c_ensG {l : Launch} {Z : State} {a0 : Array Value} {z0 : Int32} {fm : Value} (G : Env1 Z a0 z0 fm) (x0 va : Addr) (m : Nat) {ds : List Int32} {k : ClassId} {cap : Nat} (h : Heap) (Sb : SBo Z h x0 va k cap ds) (hm : cap < m) (hm2 : m ≤ cap + (cap + 2)) (hc : cap + (cap + 2) ≤ 70) : Ctr Z consts_1 true l [] (⟨"java/lang/AbstractStringBuilder", "ensureCapacityInternal", "(I)V"⟩ : MethodName) jdk_68_method_9_code 3 none ({ frames := 3, cells := 1, slots := 70, locals := 60 } : Room) #[(.ref x0), (.int (Int32.ofNat m))] h [] (fun v h' => v = none ∧ ∃ va' k', SBo Z h' x0 va' k' (cap + (cap + 2)) ds ∧ h.size ≤ va' ∧ va' < h'.size ∧ Keep h h' [x0]) := by
  obtain ⟨hw, hEL, O2, P5, O4⟩ := id G
  refine Ctr.of_run (a0 := a0) (L0 := #[.val (.ref x0), .val (.int (Int32.ofNat m)), .unset]) (plainFor_of_name pn_asb) hEL (by first | (simp [argsToLocals, Value.category, maxLocals]; done) | rfl) (fun K hK => ?_)
  obtain ⟨X, Fv, Fc, Fn, Av, g1, g2, g3, hcap, g5⟩ := id Sb
  have xlt := X.lt
  refine Run.old (fun hO => ?_)
  refine Run.pure hK (seg := [(0, .aload_n 0, 1)]) (by decide +kernel) (pc' := 1) (L' := #[.val (.ref x0), .val (.int (Int32.ofNat m)), .unset]) (S' := [(.ref x0)]) rfl ?_
  refine Run.getf hK (index := 15) (host := "") (Or.inl (hw _ (List.mem_of_getElem? (i := 54) rfl))) Via.refl Fv (by decide +kernel) ?_
  refine Run.alen hK Av (by decide +kernel) ?_
  refine Run.pure hK (seg := [(5, .aload_n 0, 1)]) (by decide +kernel) (pc' := 6) (L' := #[.val (.ref x0), .val (.int (Int32.ofNat m)), .unset]) (S' := [(.ref x0), (.int (Int32.ofNat cap))]) rfl ?_
  refine Run.getf hK (index := 22) (host := "") (Or.inl (hw _ (List.mem_of_getElem? (i := 56) rfl))) Via.refl Fc (by decide +kernel) ?_
  refine Run.pure hK (seg := [(9, .ishr, 1)]) (by decide +kernel) (pc' := 10) (L' := #[.val (.ref x0), .val (.int (Int32.ofNat m)), .unset]) (S' := [(.int ((Int32.ofNat cap) >>> ((0 : Int32) &&& 31)))]) rfl ?_
  rw [shr0]
  refine Run.pure hK (seg := [(10, .istore_n 2, 1), (11, .iload_n 1, 1), (12, .iload_n 2, 1), (13, .isub, 1)]) (by decide +kernel) (pc' := 14) (L' := #[.val (.ref x0), .val (.int (Int32.ofNat m)), .val (.int (Int32.ofNat cap))]) (S' := [(.int ((Int32.ofNat m) - (Int32.ofNat cap)))]) rfl ?_
  refine Run.ifz hK (cd := .le) (o := 24) (by decide +kernel) (by decide) (pc' := 38) rfl (fun q => by replace q := (h_le _ _).1 q; exact absurd (gt_sub0 hm (by omega)) q) (fun _ => ?_)
  refine Run.pure hK (seg := [(17, .aload_n 0, 1), (18, .aload_n 0, 1)]) (by decide +kernel) (pc' := 19) (L' := #[.val (.ref x0), .val (.int (Int32.ofNat m)), .val (.int (Int32.ofNat cap))]) (S' := [(.ref x0), (.ref x0)]) rfl ?_
  refine Run.getf hK (index := 15) (host := "") (Or.inl (hw _ (List.mem_of_getElem? (i := 54) rfl))) Via.refl Fv (by decide +kernel) ?_
  refine Run.pure hK (seg := [(22, .aload_n 0, 1), (23, .iload_n 1, 1)]) (by decide +kernel) (pc' := 24) (L' := #[.val (.ref x0), .val (.int (Int32.ofNat m)), .val (.int (Int32.ofNat cap))]) (S' := [(.int (Int32.ofNat m)), (.ref x0), (.ref va), (.ref x0)]) rfl ?_
  refine Run.privatS hK (index := 104) (y := (⟨"java/lang/AbstractStringBuilder", "newCapacity", "(I)I"⟩ : MethodName)) (Wt := 2) (kc := 0) (ks := 0) (hw _ (List.mem_of_getElem? (i := 106) rfl)) (hw _ (List.mem_of_getElem? (i := 107) rfl)) (hw _ (List.mem_of_getElem? (i := 109) rfl)) (hw _ (List.mem_of_getElem? (i := 108) rfl)) (hw _ (List.mem_of_getElem? (i := 110) rfl)) (by decide) (a := x0) X (W' := []) (fun _ q => nomatch q) (Ctr.cal (c_nc G x0 va m h Sb hm hm2 (by omega)) (hw _ (List.mem_of_getElem? (i := 110) rfl)) (hw _ (List.mem_of_getElem? (i := 50) rfl)) (by decide) (by decide)) rfl (argsL := [(.int (Int32.ofNat m))]) (rest := [(.ref va), (.ref x0)]) (lenOf pd_nc rfl) rfl (Nat.le_of_ble_eq_true rfl) (by decide +kernel) (by decide) (by decide) (fun v1 h1 q1 n1 => ?_)
  obtain ⟨rfl, rfl⟩ := q1
  refine Run.pure hK (seg := [(27, .aload_n 0, 1)]) (by decide +kernel) (pc' := 28) (L' := #[.val (.ref x0), .val (.int (Int32.ofNat m)), .val (.int (Int32.ofNat cap))]) (S' := [(.ref x0), (.int (Int32.ofNat (cap + (cap + 2)))), (.ref va), (.ref x0)]) rfl ?_
  refine Run.getf hK (index := 22) (host := "") (Or.inl (hw _ (List.mem_of_getElem? (i := 56) rfl))) Via.refl Fc (by decide +kernel) ?_
  refine Run.pure hK (seg := [(31, .ishl, 1)]) (by decide +kernel) (pc' := 32) (L' := #[.val (.ref x0), .val (.int (Int32.ofNat m)), .val (.int (Int32.ofNat cap))]) (S' := [(.int ((Int32.ofNat (cap + (cap + 2))) <<< ((0 : Int32) &&& 31))), (.ref va), (.ref x0)]) rfl ?_
  rw [shl0]
  refine Run.static hK (index := 108) (y := (⟨"java/util/Arrays", "copyOf", "([BI)[B"⟩ : MethodName)) (Wt := 1) (kc := 1) (ks := 70) (hw _ (List.mem_of_getElem? (i := 121) rfl)) (hw _ (List.mem_of_getElem? (i := 122) rfl)) (hw _ (List.mem_of_getElem? (i := 123) rfl)) (hw _ (List.mem_of_getElem? (i := 124) rfl)) (by decide) (W' := []) (fun _ q => nomatch q) (Ctr.cal (c_cpb G va (cap + (cap + 2)) h1 Av (by rw [lens]; exact g3) (by omega) hc) (hw _ (List.mem_of_getElem? (i := 124) rfl)) (hw _ (List.mem_of_getElem? (i := 123) rfl)) (by decide) (by decide)) rfl (argsL := [(.ref va), (.int (Int32.ofNat (cap + (cap + 2))))]) (rest := [(.ref x0)]) (lenOf pd_cpb rfl) rfl (Nat.le_of_ble_eq_true rfl) (by decide +kernel) (by decide) (by decide) (fun v2 h2 q2 n2 => ?_)
  obtain ⟨a2, k2, rfl, z2, A2, E2⟩ := q2
  replace Fv := Fv.ext E2
  replace Fc := Fc.ext E2
  replace Fn := Fn.ext E2
  replace X := X.ext E2
  have n2 : a2 ≠ x0 := fun z => absurd xlt (by rw [← z, z2]; exact Nat.lt_irrefl _)
  refine Run.putf hK (index := 15) (host := "") (Or.inl (hw _ (List.mem_of_getElem? (i := 54) rfl))) Via.refl Fv X (Or.inl (hw _ (List.mem_of_getElem? (i := 55) rfl))) (hw _ (List.mem_of_getElem? (i := 41) rfl)) (ty := (.array .byte)) (by decide) rfl rfl g1 (sfE X (by decide) (by decide)) (by decide +kernel) (fun h3 W3 => ?_)
  replace Fv := Fv.same W3
  replace Fc := Fc.other W3 (Or.inr (slot_ne (Or.inl (hw _ (List.mem_of_getElem? (i := 57) rfl))) (Or.inl (hw _ (List.mem_of_getElem? (i := 55) rfl))) (by decide) (by decide : parseFieldDescriptor "B" = some .byte) (by decide : parseFieldDescriptor "[B" = some (.array .byte))))
  replace Fn := Fn.other W3 (Or.inr (slot_ne (Or.inl (hw _ (List.mem_of_getElem? (i := 79) rfl))) (Or.inl (hw _ (List.mem_of_getElem? (i := 55) rfl))) (by decide) (by decide : parseFieldDescriptor "I" = some .int) (by decide : parseFieldDescriptor "[B" = some (.array .byte))))
  replace X := X.wr W3
  replace A2 := A2.other W3 n2
  exact Run.retv hK (by decide +kernel) (by decide) (by decide) ⟨rfl, a2, k2, ⟨X, Fv, Fc, Fn, A2, g1, (by rw [z2]; exact hO.1), by omega, by omega, g5⟩, (by rw [z2]; exact Nat.le_refl _), A2.lt, ((Keep.refl _ [x0]).ext E2).wr W3 (Or.inl (List.mem_singleton.mpr rfl))⟩
set_option maxRecDepth 65536 in
set_option maxHeartbeats 40000000 in
theorem c_aapG {l : Launch} {Z : State} {a0 : Array Value} {z0 : Int32} {fm : Value} (G : Env1 Z a0 z0 fm) (x0 x va : Addr) {cs ds : List Int32} {k : ClassId} {cap : Nat} (h : Heap) (Sb : SBo Z h x0 va k cap ds) (F : Str Z h x cs) (hm : cap < ds.length + cs.length) (hm2 : ds.length + cs.length ≤ cap + (cap + 2)) (hc : cap + (cap + 2) ≤ 70) : Ctr Z consts_1 true l [] (⟨"java/lang/AbstractStringBuilder", "append", "(Ljava/lang/String;)Ljava/lang/AbstractStringBuilder;"⟩ : MethodName) jdk_68_method_22_code 3 (some (.object "java/lang/AbstractStringBuilder")) ({ frames := 4, cells := 1, slots := 70, locals := 80 } : Room) #[(.ref x0), (.ref x)] h [] (fun v h' => v = some (.ref x0) ∧ ∃ va' k', SBo Z h' x0 va' k' (cap + (cap + 2)) (ds ++ cs) ∧ h.size ≤ va' ∧ va' < h'.size ∧ Keep h h' [x0]) := by
  obtain ⟨hw, hEL, O2, P5, O4⟩ := id G
  refine Ctr.of_run (a0 := a0) (L0 := #[.val (.ref x0), .val (.ref x), .unset]) (plainFor_of_name pn_asb) hEL (by first | (simp [argsToLocals, Value.category, maxLocals]; done) | rfl) (fun K hK => ?_)
  refine Run.pure hK (seg := [(0, .aload_n 1, 1)]) (by decide +kernel) (pc' := 1) (L' := #[.val (.ref x0), .val (.ref x), .unset]) (S' := [(.ref x)]) rfl ?_
  refine Run.ifnnr hK (o := 8) (by decide +kernel) (by decide) (pc' := 9) rfl ?_
  refine Run.pure hK (seg := [(9, .aload_n 1, 1)]) (by decide +kernel) (pc' := 10) (L' := #[.val (.ref x0), .val (.ref x), .unset]) (S' := [(.ref x)]) rfl ?_
  refine Run.virtual hK (index := 32) (y := (⟨"java/lang/String", "length", "()I"⟩ : MethodName)) (z := (⟨"java/lang/String", "length", "()I"⟩ : MethodName)) (C := "java/lang/String") (Wt := 0) (kc := 0) (ks := 0) (hw _ (List.mem_of_getElem? (i := 68) rfl)) (hw _ (List.mem_of_getElem? (i := 69) rfl)) (nfS (hw _ (List.mem_of_getElem? (i := 71) rfl))) (hw _ (List.mem_of_getElem? (i := 71) rfl)) (hw _ (List.mem_of_getElem? (i := 70) rfl)) (by decide) (a := x) F.1 (fun _ q => q) (cal_len (g_lenW hw) (hw _ (List.mem_of_getElem? (i := 1) rfl)) F O2 P5 (by decide) (by decide)) rfl (argsL := []) (rest := []) (lenOf pd_len rfl) rfl (Nat.le_of_ble_eq_true rfl) (by decide +kernel) (by decide) (by decide) (fun v1 h1 q1 n1 => ?_)
  obtain ⟨rfl, rfl⟩ := q1
  obtain ⟨X, Fv, Fc, Fn, Av, g1, g2, g3, hcap, g5⟩ := id Sb
  have F5 := F.2.2.2.1
  have xlt := X.lt
  refine Run.pure hK (seg := [(13, .istore_n 2, 1), (14, .aload_n 0, 1), (15, .aload_n 0, 1)]) (by decide +kernel) (pc' := 16) (L' := #[.val (.ref x0), .val (.ref x), .val (.int (Int32.ofNat cs.length))]) (S' := [(.ref x0), (.ref x0)]) rfl ?_
  refine Run.getf hK (index := 79) (host := "") (Or.inl (hw _ (List.mem_of_getElem? (i := 78) rfl))) Via.refl Fn (by decide +kernel) ?_
  refine Run.pure hK (seg := [(19, .iload_n 2, 1), (20, .iadd, 1)]) (by decide +kernel) (pc' := 21) (L' := #[.val (.ref x0), .val (.ref x), .val (.int (Int32.ofNat cs.length))]) (S' := [(.int ((Int32.ofNat ds.length) + (Int32.ofNat cs.length))), (.ref x0)]) rfl ?_
  rw [ofN_add (by omega : ds.length + cs.length ≤ 4000)]
  refine Run.privatSF hK (index := 100) (y := (⟨"java/lang/AbstractStringBuilder", "ensureCapacityInternal", "(I)V"⟩ : MethodName)) (Wt := 0) (kc := 1) (ks := 70) (hw _ (List.mem_of_getElem? (i := 80) rfl)) (hw _ (List.mem_of_getElem? (i := 81) rfl)) (hw _ (List.mem_of_getElem? (i := 83) rfl)) (hw _ (List.mem_of_getElem? (i := 82) rfl)) (hw _ (List.mem_of_getElem? (i := 84) rfl)) (by decide) (a := x0) X (W' := []) (fun _ q => nomatch q) (Ctr.cal (c_ensG G x0 va (ds.length + cs.length) h1 Sb hm hm2 hc) (hw _ (List.mem_of_getElem? (i := 84) rfl)) (hw _ (List.mem_of_getElem? (i := 50) rfl)) (by decide) (by decide)) rfl (argsL := [(.int (Int32.ofNat (ds.length + cs.length)))]) (rest := []) (lenOf pd_asb rfl) rfl (Nat.le_of_ble_eq_true rfl) (by decide +kernel) (by decide) (by decide) (fun _ _ q => by obtain ⟨-, va, k, -, -, -, q⟩ := q; exact ⟨[x0], q, fun x hx => by cases List.mem_singleton.mp hx; exact sfE X (by decide) (by decide)⟩) (fun v2 h2 q2 n2 => ?_)
  obtain ⟨rfl, vb, kb, S2, e1, e2, K2⟩ := q2
  refine ⟨[vb], (fun x hx => by cases List.mem_singleton.mp hx; exact ⟨e1, e2⟩), ?_⟩
  have F2 : Str Z h2 x cs := F.keep1 K2 X (hw _ (List.mem_of_getElem? (i := 41) rfl)) (by decide)
  obtain ⟨X2, Fv2, Fc2, Fn2, Av2, j1, j2, j3, jcap, j5⟩ := id S2
  have nxv : x0 ≠ vb := X2.neArv Av2 (hw _ (List.mem_of_getElem? (i := 41) rfl))
  refine Run.pure hK (seg := [(24, .aload_n 0, 1), (25, .aload_n 0, 1)]) (by decide +kernel) (pc' := 26) (L' := #[.val (.ref x0), .val (.ref x), .val (.int (Int32.ofNat cs.length))]) (S' := [(.ref x0), (.ref x0)]) rfl ?_
  refine Run.getf hK (index := 79) (host := "") (Or.inl (hw _ (List.mem_of_getElem? (i := 78) rfl))) Via.refl Fn2 (by decide +kernel) ?_
  refine Run.pure hK (seg := [(29, .aload_n 1, 1)]) (by decide +kernel) (pc' := 30) (L' := #[.val (.ref x0), .val (.ref x), .val (.int (Int32.ofNat cs.length))]) (S' := [(.ref x), (.int (Int32.ofNat ds.length)), (.ref x0)]) rfl ?_
  refine Run.privatS hK (index := 208) (y := (⟨"java/lang/AbstractStringBuilder", "putStringAt", "(ILjava/lang/String;)V"⟩ : MethodName)) (Wt := 0) (kc := 0) (ks := 0) (hw _ (List.mem_of_getElem? (i := 85) rfl)) (hw _ (List.mem_of_getElem? (i := 86) rfl)) (hw _ (List.mem_of_getElem? (i := 88) rfl)) (hw _ (List.mem_of_getElem? (i := 87) rfl)) (hw _ (List.mem_of_getElem? (i := 89) rfl)) (by decide) (a := x0) X2 (W' := [vb]) (fun _ q => List.mem_append_left _ q) (Ctr.cal (c_put G x0 x vb h2 S2 F2 (by omega)) (hw _ (List.mem_of_getElem? (i := 89) rfl)) (hw _ (List.mem_of_getElem? (i := 50) rfl)) (by decide) (by decide)) rfl (argsL := [(.int (Int32.ofNat ds.length)), (.ref x)]) (rest := []) (lenOf pd_put rfl) rfl (Nat.le_of_ble_eq_true rfl) (by decide +kernel) (by decide) (by decide) (fun v3 h3 q3 n3 => ?_)
  obtain ⟨rfl, Av3, K3⟩ := q3
  have X := X2.keep K3
  have Fv := Fv2.keep K3 (fun z => nxv (List.mem_singleton.mp z))
  have Fc := Fc2.keep K3 (fun z => nxv (List.mem_singleton.mp z))
  have Fn := Fn2.keep K3 (fun z => nxv (List.mem_singleton.mp z))
  refine Run.pure hK (seg := [(33, .aload_n 0, 1), (34, .dup, 1)]) (by decide +kernel) (pc' := 35) (L' := #[.val (.ref x0), .val (.ref x), .val (.int (Int32.ofNat cs.length))]) (S' := [(.ref x0), (.ref x0)]) rfl ?_
  refine Run.getf hK (index := 79) (host := "") (Or.inl (hw _ (List.mem_of_getElem? (i := 78) rfl))) Via.refl Fn (by decide +kernel) ?_
  refine Run.pure hK (seg := [(38, .iload_n 2, 1), (39, .iadd, 1)]) (by decide +kernel) (pc' := 40) (L' := #[.val (.ref x0), .val (.ref x), .val (.int (Int32.ofNat cs.length))]) (S' := [(.int ((Int32.ofNat ds.length) + (Int32.ofNat cs.length))), (.ref x0)]) rfl ?_
  rw [ofN_add (by omega : ds.length + cs.length ≤ 4000)]
  refine Run.putf hK (index := 79) (host := "") (Or.inl (hw _ (List.mem_of_getElem? (i := 78) rfl))) Via.refl Fn X (Or.inl (hw _ (List.mem_of_getElem? (i := 79) rfl))) (hw _ (List.mem_of_getElem? (i := 41) rfl)) (ty := .int) (by decide) rfl rfl g1 (sfE X (by decide) (by decide)) (by decide +kernel) (fun h4 W4 => ?_)
  replace Fv := Fv.other W4 (Or.inr (slot_ne (Or.inl (hw _ (List.mem_of_getElem? (i := 55) rfl))) (Or.inl (hw _ (List.mem_of_getElem? (i := 79) rfl))) (by decide) (by decide : parseFieldDescriptor "[B" = some (.array .byte)) (by decide : parseFieldDescriptor "I" = some .int)))
  replace Fc := Fc.other W4 (Or.inr (slot_ne (Or.inl (hw _ (List.mem_of_getElem? (i := 57) rfl))) (Or.inl (hw _ (List.mem_of_getElem? (i := 79) rfl))) (by decide) (by decide : parseFieldDescriptor "B" = some .byte) (by decide : parseFieldDescriptor "I" = some .int)))
  replace Fn := Fn.same W4
  replace X := X.wr W4
  replace Av3 := Av3.other W4 nxv.symm
  rw [← List.length_append] at Fn
  have KK := (K2.trans K3 (fun x hx => Or.inr (by cases List.mem_singleton.mp hx; exact e1))).wr W4 (Or.inl (by simp))
  refine Run.pure hK (seg := [(43, .aload_n 0, 1)]) (by decide +kernel) (pc' := 44) (L' := #[.val (.ref x0), .val (.ref x), .val (.int (Int32.ofNat cs.length))]) (S' := [(.ref x0)]) rfl ?_
  exact Run.retw hK (i := .areturn) rfl (Or.inr (Or.inr (Or.inr (Or.inr ⟨rfl, rfl, rfl⟩)))) (by decide +kernel) (by decide) (by decide) ⟨rfl, vb, kb, ⟨X, Fv, Fc, Fn, Av3, g1, j2, by rw [List.length_append]; omega, jcap, fun c hc => (List.mem_append.mp hc).elim (g5 c) (F5 c)⟩, e1, Av3.lt, KK⟩
set_option maxRecDepth 65536 in
set_option maxHeartbeats 40000000 in
theorem c_sapG {l : Launch} {Z : State} {a0 : Array Value} {z0 : Int32} {fm : Value} (G : Env1 Z a0 z0 fm) (x0 x va : Addr) {cs ds : List Int32} {k : ClassId} {cap : Nat} (h : Heap) (Sb : SBo Z h x0 va k cap ds) (F : Str Z h x cs) (hm : cap < ds.length + cs.length) (hm2 : ds.length + cs.length ≤ cap + (cap + 2)) (hc : cap + (cap + 2) ≤ 70) : Ctr Z consts_1 true l [] (⟨"java/lang/StringBuilder", "append", "(Ljava/lang/String;)Ljava/lang/StringBuilder;"⟩ : MethodName) jdk_67_method_7_code 2 (some (.object "java/lang/StringBuilder")) ({ frames := 5, cells := 1, slots := 70, locals := 100 } : Room) #[(.ref x0), (.ref x)] h [] (fun v h' => v = some (.ref x0) ∧ ∃ va' k', SBo Z h' x0 va' k' (cap + (cap + 2)) (ds ++ cs) ∧ h.size ≤ va' ∧ va' < h'.size ∧ Keep h h' [x0]) := by
  obtain ⟨hw, hEL, O2, P5, O4⟩ := id G
  refine Ctr.of_run (a0 := a0) (L0 := #[.val (.ref x0), .val (.ref x)]) (plainFor_of_name pn_sb) hEL (by first | (simp [argsToLocals, Value.category, maxLocals]; done) | rfl) (fun K hK => ?_)
  refine Run.pure hK (seg := [(0, .aload_n 0, 1), (1, .aload_n 1, 1)]) (by decide +kernel) (pc' := 2) (L' := #[.val (.ref x0), .val (.ref x)]) (S' := [(.ref x), (.ref x0)]) rfl ?_
  refine Run.up hK (index := 29) (y := (⟨"java/lang/AbstractStringBuilder", "append", "(Ljava/lang/String;)Ljava/lang/AbstractStringBuilder;"⟩ : MethodName)) (Wt := 0) (kc := 1) (ks := 70) (by decide) (hw _ (List.mem_of_getElem? (i := 63) rfl)) (sm_of (hw _ (List.mem_of_getElem? (i := 83) rfl)) (hw _ (List.mem_of_getElem? (i := 81) rfl)) (hw _ (List.mem_of_getElem? (i := 64) rfl)) rfl (by decide)) (hw _ (List.mem_of_getElem? (i := 64) rfl)) (hw _ (List.mem_of_getElem? (i := 65) rfl)) (hw _ (List.mem_of_getElem? (i := 67) rfl)) (a := x0) (Ins.self Sb.1) (W' := []) (fun _ q => nomatch q) (Ctr.cal (c_aapG G x0 x va h Sb F hm hm2 hc) (hw _ (List.mem_of_getElem? (i := 67) rfl)) (hw _ (List.mem_of_getElem? (i := 50) rfl)) (by decide) (by decide)) rfl (argsL := [(.ref x)]) (rest := []) (lenOf pd_aap rfl) rfl (Nat.le_of_ble_eq_true rfl) (by decide +kernel) (by decide) (by decide) (fun v1 h1 q1 n1 => ?_)
  obtain ⟨rfl, q⟩ := q1
  refine Run.pure hK (seg := [(5, .pop, 1), (6, .aload_n 0, 1)]) (by decide +kernel) (pc' := 7) (L' := #[.val (.ref x0), .val (.ref x)]) (S' := [(.ref x0)]) rfl ?_
  exact Run.retw hK (i := .areturn) rfl (Or.inr (Or.inr (Or.inr (Or.inr ⟨rfl, rfl, rfl⟩)))) (by decide +kernel) (by decide) (by decide) ⟨rfl, q⟩
set_option maxRecDepth 65536 in
set_option maxHeartbeats 40000000 in
theorem c_gm {l : Launch} {Z : State} {a0 : Array Value} {z0 : Int32} {fm : Value} (G : Env1 Z a0 z0 fm) (x0 s : Addr) (h : Heap) (F : Fld Z h x0 "java/lang/Throwable" "detailMessage" "Ljava/lang/String;" (.ref s)) : Ctr Z consts_1 false l [] (⟨"java/lang/Throwable", "getMessage", "()Ljava/lang/String;"⟩ : MethodName) jdk_78_method_6_code 1 (some (.object "java/lang/String")) ({ frames := 0, cells := 0, slots := 0, locals := 0 } : Room) #[(.ref x0)] h [] (fun v h' => h' = h ∧ v = some (.ref s)) := by
  obtain ⟨hw, hEL, O2, P5, O4⟩ := id G
  refine Ctr.of_run (a0 := a0) (L0 := #[.val (.ref x0)]) (plainFor_of_name pn_th) hEL (by first | (simp [argsToLocals, Value.category, maxLocals]; done) | rfl) (fun K hK => ?_)
  refine Run.pure hK (seg := [(0, .aload_n 0, 1)]) (by decide +kernel) (pc' := 1) (L' := #[.val (.ref x0)]) (S' := [(.ref x0)]) rfl ?_
  refine Run.getf hK (index := 31) (host := "") (Or.inl (hw _ (List.mem_of_getElem? (i := 225) rfl))) Via.refl F (by decide +kernel) ?_
  exact Run.retw hK (i := .areturn) rfl (Or.inr (Or.inr (Or.inr (Or.inr ⟨rfl, rfl, rfl⟩)))) (by decide +kernel) (by decide) (by decide) ⟨rfl, rfl⟩
theorem pd_ti : parseMethodDescriptor "(Ljava/lang/String;)V" = some ⟨[(.object "java/lang/String")], none⟩ := by decide +kernel
theorem pn_ex : plainName "java/lang/Exception" = true := by first | (simp [plainName, overriddenIn]; done) | decide +kernel
theorem pn_re : plainName "java/lang/RuntimeException" = true := by first | (simp [plainName, overriddenIn]; done) | decide +kernel
theorem pn_se : plainName "com/example/forehall/forehall/StartupException" = true := by first | (simp [plainName, overriddenIn]; done) | decide +kernel
def Thn (Z : State) (h : Heap) (a : Addr) : Prop := Exa Z h a "com/example/forehall/forehall/StartupException" ∧ Unt h a ∧ Z.heap.size ≤ a ∧ Fld Z h a "java/lang/Throwable" "cause" "Ljava/lang/Throwable;" .null ∧ Fld Z h a "java/lang/Throwable" "stackTrace" "[Ljava/lang/StackTraceElement;" .null ∧ Fld Z h a "java/lang/Throwable" "suppressedExceptions" "Ljava/util/List;" .null ∧ Fld Z h a "java/lang/Throwable" "backtrace" "Ljava/lang/Object;" .null ∧ Fld Z h a "java/lang/Throwable" "detailMessage" "Ljava/lang/String;" .null
def ThSt (Z : State) (u0 u1 : Value) : Prop := Sta Z Z.heap "java/lang/Throwable" "UNASSIGNED_STACK" "[Ljava/lang/StackTraceElement;" u0 ∧ u0.isRef = true ∧ Sta Z Z.heap "java/lang/Throwable" "SUPPRESSED_SENTINEL" "Ljava/util/List;" u1 ∧ u1.isRef = true
theorem Thn.ext {Z : State} {h h' : Heap} {a : Addr} (F : Thn Z h a) (E : Ext h h') : Thn Z h' a := by
  obtain ⟨f1, f2, f3, f4, f5, f6, f7, f8⟩ := F
  exact ⟨f1.ext E, f2.ext E, f3, f4.ext E, f5.ext E, f6.ext E, f7.ext E, f8.ext E⟩
set_option maxRecDepth 65536 in
set_option maxHeartbeats 40000000 in
theorem c_ti {l : Launch} {Z : State} {a0 : Array Value} {z0 : Int32} {fm : Value} (G : Env1 Z a0 z0 fm) (x0 ms : Addr) (h : Heap) (hlt : l.stackTraces = true) {u0 u1 : Value} (TS : ThSt Z u0 u1) (N : Thn Z h x0) : CtrK KM Z consts_1 false l [] (⟨"java/lang/Throwable", "<init>", "(Ljava/lang/String;)V"⟩ : MethodName) jdk_78_method_2_code 2 none ({ frames := 3, cells := 1, slots := 2752, locals := 42 } : Room) #[(.ref x0), (.ref ms)] h [] (fun v h' => v = none ∧ Keep h h' [x0] ∧ Exa Z h' x0 "com/example/forehall/forehall/StartupException" ∧ Fld Z h' x0 "java/lang/Throwable" "detailMessage" "Ljava/lang/String;" (.ref ms)) := by
  obtain ⟨hw, hEL, O2, P5, O4⟩ := id G
  refine CtrK.of_run (a0 := a0) (L0 := #[.val (.ref x0), .val (.ref ms)]) (plainFor_of_name pn_th) hEL (by first | (simp [argsToLocals, Value.category, maxLocals]; done) | rfl) (fun _ _ _ _ _ _ _ _ _ _ q => q) (fun K hK hKn => ?_)
  obtain ⟨T1, T2, T3, T4⟩ := TS
  obtain ⟨X, Un, ge, Fc, Fs, Fp, Fb, Fm⟩ := N
  refine Run.old (fun hO => ?_)
  refine Run.pure hK (seg := [(0, .aload_n 0, 1)]) (by decide +kernel) (pc' := 1) (L' := #[.val (.ref x0), .val (.ref ms)]) (S' := [(.ref x0)]) rfl ?_
  refine Run.initobj hK (index := 1) (hw _ (List.mem_of_getElem? (i := 189) rfl)) (hw _ (List.mem_of_getElem? (i := 12) rfl)) (hw _ (List.mem_of_getElem? (i := 13) rfl)) rfl (by decide +kernel) (by decide) (Wt := 0) (Nat.le_of_ble_eq_true rfl) (by decide) ?_
  refine Run.pure hK (seg := [(4, .aload_n 0, 1), (5, .aload_n 0, 1)]) (by decide +kernel) (pc' := 6) (L' := #[.val (.ref x0), .val (.ref ms)]) (S' := [(.ref x0), (.ref x0)]) rfl ?_
  refine Run.putf hK (index := 7) (host := "") (Or.inl (hw _ (List.mem_of_getElem? (i := 190) rfl))) Via.refl Fc X (Or.inl (hw _ (List.mem_of_getElem? (i := 191) rfl))) (hw _ (List.mem_of_getElem? (i := 38) rfl)) (ty := (.object "java/lang/Throwable")) (by decide) rfl rfl ge (sfE X (by decide) (by decide)) (by decide +kernel) (fun h1 W1 => ?_)
  replace Fc := Fc.same W1
  replace Fs := Fs.other W1 (Or.inr (slot_ne (Or.inl (hw _ (List.mem_of_getElem? (i := 194) rfl))) (Or.inl (hw _ (List.mem_of_getElem? (i := 191) rfl))) (by decide) (by decide : parseFieldDescriptor "[Ljava/lang/StackTraceElement;" = some (.array (.object "java/lang/StackTraceElement"))) (by decide : parseFieldDescriptor "Ljava/lang/Throwable;" = some (.object "java/lang/Throwable"))))
  replace Fp := Fp.other W1 (Or.inr (slot_ne (Or.inl (hw _ (List.mem_of_getElem? (i := 197) rfl))) (Or.inl (hw _ (List.mem_of_getElem? (i := 191) rfl))) (by decide) (by decide : parseFieldDescriptor "Ljava/util/List;" = some (.object "java/util/List")) (by decide : parseFieldDescriptor "Ljava/lang/Throwable;" = some (.object "java/lang/Throwable"))))
  replace Fb := Fb.other W1 (Or.inr (slot_ne (Or.inl (hw _ (List.mem_of_getElem? (i := 222) rfl))) (Or.inl (hw _ (List.mem_of_getElem? (i := 191) rfl))) (by decide) (by decide : parseFieldDescriptor "Ljava/lang/Object;" = some (.object "java/lang/Object")) (by decide : parseFieldDescriptor "Ljava/lang/Throwable;" = some (.object "java/lang/Throwable"))))
  replace Fm := Fm.other W1 (Or.inr (slot_ne (Or.inl (hw _ (List.mem_of_getElem? (i := 221) rfl))) (Or.inl (hw _ (List.mem_of_getElem? (i := 191) rfl))) (by decide) (by decide : parseFieldDescriptor "Ljava/lang/String;" = some (.object "java/lang/String")) (by decide : parseFieldDescriptor "Ljava/lang/Throwable;" = some (.object "java/lang/Throwable"))))
  replace X := X.wr W1
  replace Un := Un.wr W1
  have K1 := (Keep.refl _ [x0]).wr W1 (Or.inl (List.mem_singleton.mpr rfl))
  refine Run.pure hK (seg := [(9, .aload_n 0, 1)]) (by decide +kernel) (pc' := 10) (L' := #[.val (.ref x0), .val (.ref ms)]) (S' := [(.ref x0)]) rfl ?_
  refine Run.old (fun hO1 => ?_)
  refine Run.gets hK (index := 13) (hw _ (List.mem_of_getElem? (i := 192) rfl)) Via.refl (T1.ext hO1) (by decide +kernel) ?_
  refine Run.putf hK (index := 17) (host := "") (Or.inl (hw _ (List.mem_of_getElem? (i := 193) rfl))) Via.refl Fs X (Or.inl (hw _ (List.mem_of_getElem? (i := 194) rfl))) (hw _ (List.mem_of_getElem? (i := 38) rfl)) (ty := (.array (.object "java/lang/StackTraceElement"))) (by decide) (narrow_isRef _ T2) (fits_refV_array _ ⟨u0, T2⟩) ge (sfE X (by decide) (by decide)) (by decide +kernel) (fun h2 W2 => ?_)
  replace Fc := Fc.other W2 (Or.inr (slot_ne (Or.inl (hw _ (List.mem_of_getElem? (i := 191) rfl))) (Or.inl (hw _ (List.mem_of_getElem? (i := 194) rfl))) (by decide) (by decide : parseFieldDescriptor "Ljava/lang/Throwable;" = some (.object "java/lang/Throwable")) (by decide : parseFieldDescriptor "[Ljava/lang/StackTraceElement;" = some (.array (.object "java/lang/StackTraceElement")))))
  replace Fs := Fs.same W2
  replace Fp := Fp.other W2 (Or.inr (slot_ne (Or.inl (hw _ (List.mem_of_getElem? (i := 197) rfl))) (Or.inl (hw _ (List.mem_of_getElem? (i := 194) rfl))) (by decide) (by decide : parseFieldDescriptor "Ljava/util/List;" = some (.object "java/util/List")) (by decide : parseFieldDescriptor "[Ljava/lang/StackTraceElement;" = some (.array (.object "java/lang/StackTraceElement")))))
  replace Fb := Fb.other W2 (Or.inr (slot_ne (Or.inl (hw _ (List.mem_of_getElem? (i := 222) rfl))) (Or.inl (hw _ (List.mem_of_getElem? (i := 194) rfl))) (by decide) (by decide : parseFieldDescriptor "Ljava/lang/Object;" = some (.object "java/lang/Object")) (by decide : parseFieldDescriptor "[Ljava/lang/StackTraceElement;" = some (.array (.object "java/lang/StackTraceElement")))))
  replace Fm := Fm.other W2 (Or.inr (slot_ne (Or.inl (hw _ (List.mem_of_getElem? (i := 221) rfl))) (Or.inl (hw _ (List.mem_of_getElem? (i := 194) rfl))) (by decide) (by decide : parseFieldDescriptor "Ljava/lang/String;" = some (.object "java/lang/String")) (by decide : parseFieldDescriptor "[Ljava/lang/StackTraceElement;" = some (.array (.object "java/lang/StackTraceElement")))))
  replace X := X.wr W2
  replace Un := Un.wr W2
  have K2 := K1.wr W2 (Or.inl (List.mem_singleton.mpr rfl))
  refine Run.pure hK (seg := [(16, .aload_n 0, 1)]) (by decide +kernel) (pc' := 17) (L' := #[.val (.ref x0), .val (.ref ms)]) (S' := [(.ref x0)]) rfl ?_
  refine Run.old (fun hO2 => ?_)
  refine Run.gets hK (index := 20) (hw _ (List.mem_of_getElem? (i := 195) rfl)) Via.refl (T3.ext hO2) (by decide +kernel) ?_
  refine Run.putf hK (index := 24) (host := "") (Or.inl (hw _ (List.mem_of_getElem? (i := 196) rfl))) Via.refl Fp X (Or.inl (hw _ (List.mem_of_getElem? (i := 197) rfl))) (hw _ (List.mem_of_getElem? (i := 38) rfl)) (ty := (.object "java/util/List")) (by decide) (narrow_isRef _ T4) (fits_refV_object _ ⟨u1, T4⟩) ge (sfE X (by decide) (by decide)) (by decide +kernel) (fun h3 W3 => ?_)
  replace Fc := Fc.other W3 (Or.inr (slot_ne (Or.inl (hw _ (List.mem_of_getElem? (i := 191) rfl))) (Or.inl (hw _ (List.mem_of_getElem? (i := 197) rfl))) (by decide) (by decide : parseFieldDescriptor "Ljava/lang/Throwable;" = some (.object "java/lang/Throwable")) (by decide : parseFieldDescriptor "Ljava/util/List;" = some (.object "java/util/List"))))
  replace Fs := Fs.other W3 (Or.inr (slot_ne (Or.inl (hw _ (List.mem_of_getElem? (i := 194) rfl))) (Or.inl (hw _ (List.mem_of_getElem? (i := 197) rfl))) (by decide) (by decide : parseFieldDescriptor "[Ljava/lang/StackTraceElement;" = some (.array (.object "java/lang/StackTraceElement"))) (by decide : parseFieldDescriptor "Ljava/util/List;" = some (.object "java/util/List"))))
  replace Fp := Fp.same W3
  replace Fb := Fb.other W3 (Or.inr (slot_ne (Or.inl (hw _ (List.mem_of_getElem? (i := 222) rfl))) (Or.inl (hw _ (List.mem_of_getElem? (i := 197) rfl))) (by decide) (by decide : parseFieldDescriptor "Ljava/lang/Object;" = some (.object "java/lang/Object")) (by decide : parseFieldDescriptor "Ljava/util/List;" = some (.object "java/util/List"))))
  replace Fm := Fm.other W3 (Or.inr (slot_ne (Or.inl (hw _ (List.mem_of_getElem? (i := 221) rfl))) (Or.inl (hw _ (List.mem_of_getElem? (i := 197) rfl))) (by decide) (by decide : parseFieldDescriptor "Ljava/lang/String;" = some (.object "java/lang/String")) (by decide : parseFieldDescriptor "Ljava/util/List;" = some (.object "java/util/List"))))
  replace X := X.wr W3
  replace Un := Un.wr W3
  have K3 := K2.wr W3 (Or.inl (List.mem_singleton.mpr rfl))
  refine Run.pure hK (seg := [(23, .aload_n 0, 1)]) (by decide +kernel) (pc' := 24) (L' := #[.val (.ref x0), .val (.ref ms)]) (S' := [(.ref x0)]) rfl ?_
  refine Run.old (fun hO3 => ?_)
  refine Run.fill hK hKn hlt (rc := "com/example/forehall/forehall/StartupException") (n := 6) (g_thr hw) (hw _ (List.mem_of_getElem? (i := 38) rfl)) T2 X Un Fb Fs (T1.ext hO3) Fm ge (by decide) (by decide) rfl (by decide +kernel) (by decide) (Nat.le_of_ble_eq_true rfl) (by decide) (by decide) (fun h4 K4 X4 M4 => ?_)
  refine Run.pure hK (seg := [(27, .pop, 1), (28, .aload_n 0, 1), (29, .aload_n 1, 1)]) (by decide +kernel) (pc' := 30) (L' := #[.val (.ref x0), .val (.ref ms)]) (S' := [(.ref ms), (.ref x0)]) rfl ?_
  refine Run.putf hK (index := 31) (host := "") (Or.inl (hw _ (List.mem_of_getElem? (i := 225) rfl))) Via.refl M4 X4 (Or.inl (hw _ (List.mem_of_getElem? (i := 221) rfl))) (hw _ (List.mem_of_getElem? (i := 38) rfl)) (ty := (.object "java/lang/String")) (by decide) rfl rfl ge (sfE X4 (by decide) (by decide)) (by decide +kernel) (fun h5 W5 => ?_)
  exact Run.retv hK (by decide +kernel) (by decide) (by decide) ⟨rfl, (K3.trans K4 (fun x hx => Or.inl hx)).wr W5 (Or.inl (List.mem_singleton.mpr rfl)), X4.wr W5, M4.same W5⟩
set_option maxRecDepth 65536 in
set_option maxHeartbeats 40000000 in
theorem c_ei {l : Launch} {Z : State} {a0 : Array Value} {z0 : Int32} {fm : Value} (G : Env1 Z a0 z0 fm) (x0 ms : Addr) (h : Heap) (hlt : l.stackTraces = true) {u0 u1 : Value} (TS : ThSt Z u0 u1) (N : Thn Z h x0) : CtrK KM Z consts_1 false l [] (⟨"java/lang/Exception", "<init>", "(Ljava/lang/String;)V"⟩ : MethodName) jdk_59_method_2_code 2 none ({ frames := 4, cells := 1, slots := 2752, locals := 56 } : Room) #[(.ref x0), (.ref ms)] h [] (fun v h' => v = none ∧ Keep h h' [x0] ∧ Exa Z h' x0 "com/example/forehall/forehall/StartupException" ∧ Fld Z h' x0 "java/lang/Throwable" "detailMessage" "Ljava/lang/String;" (.ref ms)) := by
  obtain ⟨hw, hEL, O2, P5, O4⟩ := id G
  refine CtrK.of_run (a0 := a0) (L0 := #[.val (.ref x0), .val (.ref ms)]) (plainFor_of_name pn_ex) hEL (by first | (simp [argsToLocals, Value.category, maxLocals]; done) | rfl) (fun _ _ _ _ _ _ _ _ _ _ q => q) (fun K hK hKn => ?_)
  refine Run.pure hK (seg := [(0, .aload_n 0, 1), (1, .aload_n 1, 1)]) (by decide +kernel) (pc' := 2) (L' := #[.val (.ref x0), .val (.ref ms)]) (S' := [(.ref ms), (.ref x0)]) rfl ?_
  refine Run.specialK hK hKn (index := 7) (y := (⟨"java/lang/Throwable", "<init>", "(Ljava/lang/String;)V"⟩ : MethodName)) (Wt := 0) (kc := 1) (ks := 2752) rfl (hw _ (List.mem_of_getElem? (i := 183) rfl)) (hw _ (List.mem_of_getElem? (i := 184) rfl)) (hw _ (List.mem_of_getElem? (i := 188) rfl)) (by decide) (a := x0) (W' := []) (fun _ q => nomatch q) (CtrK.cal (c_ti G x0 ms h hlt TS N) (hw _ (List.mem_of_getElem? (i := 188) rfl)) (hw _ (List.mem_of_getElem? (i := 187) rfl)) (by decide) (by decide)) rfl (argsL := [.ref ms]) (rest := []) (lenOf pd_ti rfl) rfl (Nat.le_of_ble_eq_true rfl) (by decide +kernel) (by decide) (by decide) (fun v1 h1 q1 n1 => ?_)
  obtain ⟨rfl, q⟩ := q1
  exact Run.retv hK (by decide +kernel) (by decide) (by decide) ⟨rfl, q⟩
set_option maxRecDepth 65536 in
set_option maxHeartbeats 40000000 in
theorem c_ri {l : Launch} {Z : State} {a0 : Array Value} {z0 : Int32} {fm : Value} (G : Env1 Z a0 z0 fm) (x0 ms : Addr) (h : Heap) (hlt : l.stackTraces = true) {u0 u1 : Value} (TS : ThSt Z u0 u1) (N : Thn Z h x0) : CtrK KM Z consts_1 false l [] (⟨"java/lang/RuntimeException", "<init>", "(Ljava/lang/String;)V"⟩ : MethodName) jdk_58_method_2_code 2 none ({ frames := 5, cells := 1, slots := 2752, locals := 70 } : Room) #[(.ref x0), (.ref ms)] h [] (fun v h' => v = none ∧ Keep h h' [x0] ∧ Exa Z h' x0 "com/example/forehall/forehall/StartupException" ∧ Fld Z h' x0 "java/lang/Throwable" "detailMessage" "Ljava/lang/String;" (.ref ms)) := by
  obtain ⟨hw, hEL, O2, P5, O4⟩ := id G
  refine CtrK.of_run (a0 := a0) (L0 := #[.val (.ref x0), .val (.ref ms)]) (plainFor_of_name pn_re) hEL (by first | (simp [argsToLocals, Value.category, maxLocals]; done) | rfl) (fun _ _ _ _ _ _ _ _ _ _ q => q) (fun K hK hKn => ?_)
  refine Run.pure hK (seg := [(0, .aload_n 0, 1), (1, .aload_n 1, 1)]) (by decide +kernel) (pc' := 2) (L' := #[.val (.ref x0), .val (.ref ms)]) (S' := [(.ref ms), (.ref x0)]) rfl ?_
  refine Run.specialK hK hKn (index := 7) (y := (⟨"java/lang/Exception", "<init>", "(Ljava/lang/String;)V"⟩ : MethodName)) (Wt := 0) (kc := 1) (ks := 2752) rfl (hw _ (List.mem_of_getElem? (i := 177) rfl)) (hw _ (List.mem_of_getElem? (i := 178) rfl)) (hw _ (List.mem_of_getElem? (i := 182) rfl)) (by decide) (a := x0) (W' := []) (fun _ q => nomatch q) (CtrK.cal (c_ei G x0 ms h hlt TS N) (hw _ (List.mem_of_getElem? (i := 182) rfl)) (hw _ (List.mem_of_getElem? (i := 181) rfl)) (by decide) (by decide)) rfl (argsL := [.ref ms]) (rest := []) (lenOf pd_ti rfl) rfl (Nat.le_of_ble_eq_true rfl) (by decide +kernel) (by decide) (by decide) (fun v1 h1 q1 n1 => ?_)
  obtain ⟨rfl, q⟩ := q1
  exact Run.retv hK (by decide +kernel) (by decide) (by decide) ⟨rfl, q⟩
set_option maxRecDepth 65536 in
set_option maxHeartbeats 40000000 in
theorem c_si {l : Launch} {Z : State} {a0 : Array Value} {z0 : Int32} {fm : Value} (G : Env1 Z a0 z0 fm) (x0 ms : Addr) (h : Heap) (hlt : l.stackTraces = true) {u0 u1 : Value} (TS : ThSt Z u0 u1) (N : Thn Z h x0) : CtrK KM Z consts_1 false l [] (⟨"com/example/forehall/forehall/StartupException", "<init>", "(Ljava/lang/String;)V"⟩ : MethodName) prog_22_method_1_code 2 none ({ frames := 6, cells := 1, slots := 2752, locals := 84 } : Room) #[(.ref x0), (.ref ms)] h [] (fun v h' => v = none ∧ Keep h h' [x0] ∧ Exa Z h' x0 "com/example/forehall/forehall/StartupException" ∧ Fld Z h' x0 "java/lang/Throwable" "detailMessage" "Ljava/lang/String;" (.ref ms)) := by
  obtain ⟨hw, hEL, O2, P5, O4⟩ := id G
  refine CtrK.of_run (a0 := a0) (L0 := #[.val (.ref x0), .val (.ref ms)]) (plainFor_of_name pn_se) hEL (by first | (simp [argsToLocals, Value.category, maxLocals]; done) | rfl) (fun _ _ _ _ _ _ _ _ _ _ q => q) (fun K hK hKn => ?_)
  refine Run.pure hK (seg := [(0, .aload_n 0, 1), (1, .aload_n 1, 1)]) (by decide +kernel) (pc' := 2) (L' := #[.val (.ref x0), .val (.ref ms)]) (S' := [(.ref ms), (.ref x0)]) rfl ?_
  refine Run.specialK hK hKn (index := 1) (y := (⟨"java/lang/RuntimeException", "<init>", "(Ljava/lang/String;)V"⟩ : MethodName)) (Wt := 0) (kc := 1) (ks := 2752) rfl (hw _ (List.mem_of_getElem? (i := 172) rfl)) (hw _ (List.mem_of_getElem? (i := 173) rfl)) (hw _ (List.mem_of_getElem? (i := 176) rfl)) (by decide) (a := x0) (W' := []) (fun _ q => nomatch q) (CtrK.cal (c_ri G x0 ms h hlt TS N) (hw _ (List.mem_of_getElem? (i := 176) rfl)) (hw _ (List.mem_of_getElem? (i := 175) rfl)) (by decide) (by decide)) rfl (argsL := [.ref ms]) (rest := []) (lenOf pd_ti rfl) rfl (Nat.le_of_ble_eq_true rfl) (by decide +kernel) (by decide) (by decide) (fun v1 h1 q1 n1 => ?_)
  obtain ⟨rfl, q⟩ := q1
  exact Run.retv hK (by decide +kernel) (by decide) (by decide) ⟨rfl, q⟩
set_option maxRecDepth 65536 in
set_option maxHeartbeats 40000000 in
theorem c_nr {l : Launch} {Z : State} {a0 : Array Value} {z0 : Int32} {fm : Value} (G : Env1 Z a0 z0 fm) (p m : Addr) {ph cn : List Int32} (h : Heap) (hlt : l.stackTraces = true) {u0 u1 : Value} (TS : ThSt Z u0 u1) (Sp : Str Z h p ph) (Sm : Str Z h m cn) (lp : ph.length ≤ 2) (lm : cn.length ≤ 2) : CtrK KM Z consts_1 false l [] (⟨"com/example/forehall/forehall/PathTemplate", "notRooted", "(Ljava/lang/String;Ljava/lang/String;)Lcom/example/forehall/forehall/StartupException;"⟩ : MethodName) prog_11_method_3_code 2 (some (.object "com/example/forehall/forehall/StartupException")) ({ frames := 8, cells := 14, slots := 3400, locals := 150 } : Room) #[(.ref p), (.ref m)] h [] (fun v h' => ∃ a s, v = some (.ref a) ∧ Exa Z h' a "com/example/forehall/forehall/StartupException" ∧ Fld Z h' a "java/lang/Throwable" "detailMessage" "Ljava/lang/String;" (.ref s) ∧ Str Z h' s (cn ++ ([105, 116, 115, 32, 109, 97, 112, 112, 101, 100, 32, 112, 97, 116, 104, 32, 34] : List Int32) ++ ph ++ ([34, 32, 100, 111, 101, 115, 32, 110, 111, 116, 32, 115, 116, 97, 114, 116, 32, 119, 105, 116, 104, 32, 47] : List Int32)) ∧ Ext h h') := by
  obtain ⟨hw, hEL, O2, P5, O4⟩ := id G
  refine CtrK.of_run (a0 := a0) (L0 := #[.val (.ref p), .val (.ref m)]) (plainFor_of_name pn_pt) hEL (by first | (simp [argsToLocals, Value.category, maxLocals]; done) | rfl) (fun _ _ _ _ _ _ _ _ _ _ q => q) (fun K hK hKn => ?_)
  have wS := g_wS hw
  refine Run.old (fun hO => ?_)
  refine Run.newU hK (index := 65) (C := "com/example/forehall/forehall/StartupException") (n := 6) (hw _ (List.mem_of_getElem? (i := 37) rfl)) (hw _ (List.mem_of_getElem? (i := 38) rfl)) (hw _ (List.mem_of_getElem? (i := 39) rfl)) (by decide +kernel) (by decide) (by decide) (fun he Ee Xe Ue De => ?_)
  obtain ⟨ae, ze⟩ : ∃ z, z = h.size := ⟨_, rfl⟩
  rw [← ze]
  rw [← ze] at Xe Ue De
  have ge : h.size ≤ ae := by rw [ze]; exact Nat.le_refl _
  have Ne : Thn Z he ae := ⟨Xe, Ue, Nat.le_trans hO.1 ge, De (Or.inl (hw _ (List.mem_of_getElem? (i := 191) rfl))) (ty := (.object "java/lang/Throwable")) (by decide), De (Or.inl (hw _ (List.mem_of_getElem? (i := 194) rfl))) (ty := (.array (.object "java/lang/StackTraceElement"))) (by decide), De (Or.inl (hw _ (List.mem_of_getElem? (i := 197) rfl))) (ty := (.object "java/util/List")) (by decide), De (Or.inl (hw _ (List.mem_of_getElem? (i := 222) rfl))) (ty := (.object "java/lang/Object")) (by decide), De (Or.inl (hw _ (List.mem_of_getElem? (i := 221) rfl))) (ty := (.object "java/lang/String")) (by decide)⟩
  refine Run.pure hK (seg := [(3, .dup, 1)]) (by decide +kernel) (pc' := 4) (L' := #[.val (.ref p), .val (.ref m)]) (S' := [(.ref ae), (.ref ae)]) rfl ?_
  refine Run.new hK (index := 29) (C := "java/lang/StringBuilder") (n := 4) (hw _ (List.mem_of_getElem? (i := 40) rfl)) (hw _ (List.mem_of_getElem? (i := 41) rfl)) (hw _ (List.mem_of_getElem? (i := 42) rfl)) (by decide +kernel) (by decide) (by decide) (fun hb Eb Xb Db => ?_)
  obtain ⟨ab, zb⟩ : ∃ z, z = he.size := ⟨_, rfl⟩
  rw [← zb]
  rw [← zb] at Xb Db
  refine Run.pure hK (seg := [(7, .dup, 1)]) (by decide +kernel) (pc' := 8) (L' := #[.val (.ref p), .val (.ref m)]) (S' := [(.ref ab), (.ref ab), (.ref ae), (.ref ae)]) rfl ?_
  have Bv := Db (Or.inl (hw _ (List.mem_of_getElem? (i := 55) rfl))) (ty := .array .byte) (by decide)
  have Bc := Db (Or.inl (hw _ (List.mem_of_getElem? (i := 57) rfl))) (ty := .byte) (by decide)
  have Bn := Db (Or.inl (hw _ (List.mem_of_getElem? (i := 79) rfl))) (ty := .int) (by decide)
  have gb : he.size ≤ ab := by rw [zb]; exact Nat.le_refl _
  have gb0 := Nat.le_trans Ee.1 gb
  refine Run.specialF hK (index := 31) (y := (⟨"java/lang/StringBuilder", "<init>", "()V"⟩ : MethodName)) (Wt := 3) (kc := 1) (ks := 16) rfl (hw _ (List.mem_of_getElem? (i := 43) rfl)) (hw _ (List.mem_of_getElem? (i := 44) rfl)) (hw _ (List.mem_of_getElem? (i := 45) rfl)) (by decide) (a := ab) (W' := []) (fun _ q => nomatch q) (Ctr.cal (c_sbi G ab hb (Nat.le_trans hO.1 gb0) Xb ⟨Bv, Bc, Bn⟩) (hw _ (List.mem_of_getElem? (i := 45) rfl)) (hw _ (List.mem_of_getElem? (i := 42) rfl)) (by decide) (by decide)) rfl (argsL := []) (rest := [(.ref ab), (.ref ae), (.ref ae)]) (lenOf pd_v rfl) rfl (Nat.le_of_ble_eq_true rfl) (by decide +kernel) (by decide) (by decide) (fun _ _ q => by obtain ⟨-, va, k, -, -, -, q⟩ := q; exact ⟨[ab], q, fun x hx => by cases List.mem_singleton.mp hx; exact sfE Xb (by decide) (by decide)⟩) (fun v1 h1 q1 n1 => ?_)
  obtain ⟨rfl, va, k, S1, g1, g2, K1⟩ := q1
  refine ⟨[va], (fun x hx => by cases List.mem_singleton.mp hx; exact ⟨g1, g2⟩), ?_⟩
  have U1 := ext_keep Eb K1 (fun x hx => by cases List.mem_singleton.mp hx; exact gb)
  have gv : he.size ≤ va := Nat.le_trans Eb.1 g1
  have kp : ∀ x ∈ [ab, va], he.size ≤ x := fun x hx => by simp only [List.mem_cons, List.not_mem_nil, or_false] at hx; rcases hx with rfl | rfl; exact gb; exact gv
  have kb : ∀ x ∈ [ab], he.size ≤ x := fun x hx => by cases List.mem_singleton.mp hx; exact gb
  refine Run.pure hK (seg := [(11, .aload_n 1, 1)]) (by decide +kernel) (pc' := 12) (L' := #[.val (.ref p), .val (.ref m)]) (S' := [(.ref m), (.ref ab), (.ref ae), (.ref ae)]) rfl ?_
  refine Run.virtual hK (index := 32) (y := (⟨"java/lang/StringBuilder", "append", "(Ljava/lang/String;)Ljava/lang/StringBuilder;"⟩ : MethodName)) (z := (⟨"java/lang/StringBuilder", "append", "(Ljava/lang/String;)Ljava/lang/StringBuilder;"⟩ : MethodName)) (C := "java/lang/StringBuilder") (Wt := 2) (kc := 0) (ks := 0) (hw _ (List.mem_of_getElem? (i := 58) rfl)) (hw _ (List.mem_of_getElem? (i := 59) rfl)) (nfS (hw _ (List.mem_of_getElem? (i := 61) rfl))) (hw _ (List.mem_of_getElem? (i := 61) rfl)) (hw _ (List.mem_of_getElem? (i := 60) rfl)) (by decide) (a := ab) S1.1 (W' := [va]) (fun x q => by cases List.mem_singleton.mp q; simp) (Cal.wk (Ctr.cal (c_sap G ab m va h1 S1 ((Sm.ext Ee).ext U1) (by simp only [List.length_nil]; omega)) (hw _ (List.mem_of_getElem? (i := 62) rfl)) (hw _ (List.mem_of_getElem? (i := 42) rfl)) (by decide) (by decide))) rfl (argsL := [(.ref m)]) (rest := [(.ref ae), (.ref ae)]) (lenOf pd_sap rfl) rfl (Nat.le_of_ble_eq_true rfl) (by decide +kernel) (by decide) (by decide) (fun v2 h2 q2 n2 => ?_)
  obtain ⟨rfl, S2, K2⟩ := q2
  have U2 := ext_keep U1 K2 kp
  refine Run.ldcs hK (index := 103) rfl (text := "its mapped path \"") (hw _ (List.mem_of_getElem? (i := 105) rfl)) wS (by decide) (vs := ((([105, 116, 115, 32, 109, 97, 112, 112, 101, 100, 32, 112, 97, 116, 104, 32, 34] : List Int32).map StrChars.lo8).map Value.int)) (z := (17 : Int32)) (by decide +kernel) (by decide) (by decide +kernel) (by decide +kernel) (n := 68) (by decide) (by decide) (by decide) (by decide) (fun h3 x3 b3 k3 E3 X3 C3 V3 A3 => ?_)
  have F3 : Str Z h3 x3 ([105, 116, 115, 32, 109, 97, 112, 112, 101, 100, 32, 112, 97, 116, 104, 32, 34] : List Int32) := ⟨X3, C3, ⟨b3, k3, V3, A3⟩, (by decide), by decide⟩
  have U3 := Ext.tr U2 E3
  replace S2 := S2.ext E3
  refine Run.virtualF hK (index := 32) (y := (⟨"java/lang/StringBuilder", "append", "(Ljava/lang/String;)Ljava/lang/StringBuilder;"⟩ : MethodName)) (z := (⟨"java/lang/StringBuilder", "append", "(Ljava/lang/String;)Ljava/lang/StringBuilder;"⟩ : MethodName)) (C := "java/lang/StringBuilder") (Wt := 2) (kc := 1) (ks := 70) (hw _ (List.mem_of_getElem? (i := 58) rfl)) (hw _ (List.mem_of_getElem? (i := 59) rfl)) (nfS (hw _ (List.mem_of_getElem? (i := 61) rfl))) (hw _ (List.mem_of_getElem? (i := 61) rfl)) (hw _ (List.mem_of_getElem? (i := 60) rfl)) (by decide) (a := ab) S2.1 (W' := []) (fun _ q => nomatch q) (Ctr.cal (c_sapG G ab x3 va h3 S2 F3 (by simp <;> omega) (by simp <;> omega) (by decide)) (hw _ (List.mem_of_getElem? (i := 62) rfl)) (hw _ (List.mem_of_getElem? (i := 42) rfl)) (by decide) (by decide)) rfl (argsL := [(.ref x3)]) (rest := [(.ref ae), (.ref ae)]) (lenOf pd_sap rfl) rfl (Nat.le_of_ble_eq_true rfl) (by decide +kernel) (by decide) (by decide) (fun _ _ q => by obtain ⟨-, va, k, -, -, -, q⟩ := q; exact ⟨[ab], q, fun x hx => by cases List.mem_singleton.mp hx; exact sfE S2.1 (by decide) (by decide)⟩) (fun v4 h4 q4 n4 => ?_)
  obtain ⟨rfl, vb, k4, S4, e4, f4, K4⟩ := q4
  refine ⟨[vb], (fun x hx => by cases List.mem_singleton.mp hx; exact ⟨e4, f4⟩), ?_⟩
  have U4 := ext_keep U3 K4 kb
  have gv4 : he.size ≤ vb := Nat.le_trans U3.1 e4
  have kp4 : ∀ x ∈ [ab, vb], he.size ≤ x := fun x hx => by simp only [List.mem_cons, List.not_mem_nil, or_false] at hx; rcases hx with rfl | rfl; exact gb; exact gv4
  refine Run.pure hK (seg := [(20, .aload_n 0, 1)]) (by decide +kernel) (pc' := 21) (L' := #[.val (.ref p), .val (.ref m)]) (S' := [(.ref p), (.ref ab), (.ref ae), (.ref ae)]) rfl ?_
  refine Run.virtual hK (index := 32) (y := (⟨"java/lang/StringBuilder", "append", "(Ljava/lang/String;)Ljava/lang/StringBuilder;"⟩ : MethodName)) (z := (⟨"java/lang/StringBuilder", "append", "(Ljava/lang/String;)Ljava/lang/StringBuilder;"⟩ : MethodName)) (C := "java/lang/StringBuilder") (Wt := 2) (kc := 0) (ks := 0) (hw _ (List.mem_of_getElem? (i := 58) rfl)) (hw _ (List.mem_of_getElem? (i := 59) rfl)) (nfS (hw _ (List.mem_of_getElem? (i := 61) rfl))) (hw _ (List.mem_of_getElem? (i := 61) rfl)) (hw _ (List.mem_of_getElem? (i := 60) rfl)) (by decide) (a := ab) S4.1 (W' := [vb]) (fun x q => by cases List.mem_singleton.mp q; simp) (Cal.wk (Ctr.cal (c_sap G ab p vb h4 S4 ((Sp.ext Ee).ext U4) (by simp; omega)) (hw _ (List.mem_of_getElem? (i := 62) rfl)) (hw _ (List.mem_of_getElem? (i := 42) rfl)) (by decide) (by decide))) rfl (argsL := [(.ref p)]) (rest := [(.ref ae), (.ref ae)]) (lenOf pd_sap rfl) rfl (Nat.le_of_ble_eq_true rfl) (by decide +kernel) (by decide) (by decide) (fun v5 h5 q5 n5 => ?_)
  obtain ⟨rfl, S5, K5⟩ := q5
  have U5 := ext_keep U4 K5 kp4
  refine Run.ldcs hK (index := 105) rfl (text := "\" does not start with /") (hw _ (List.mem_of_getElem? (i := 129) rfl)) wS (by decide) (vs := ((([34, 32, 100, 111, 101, 115, 32, 110, 111, 116, 32, 115, 116, 97, 114, 116, 32, 119, 105, 116, 104, 32, 47] : List Int32).map StrChars.lo8).map Value.int)) (z := (23 : Int32)) (by decide +kernel) (by decide) (by decide +kernel) (by decide +kernel) (n := 92) (by decide) (by decide) (by decide) (by decide) (fun h6 x6 b6 k6 E6 X6 C6 V6 A6 => ?_)
  have F6 : Str Z h6 x6 ([34, 32, 100, 111, 101, 115, 32, 110, 111, 116, 32, 115, 116, 97, 114, 116, 32, 119, 105, 116, 104, 32, 47] : List Int32) := ⟨X6, C6, ⟨b6, k6, V6, A6⟩, (by decide), by decide⟩
  have U6 := Ext.tr U5 E6
  replace S5 := S5.ext E6
  refine Run.virtualF hK (index := 32) (y := (⟨"java/lang/StringBuilder", "append", "(Ljava/lang/String;)Ljava/lang/StringBuilder;"⟩ : MethodName)) (z := (⟨"java/lang/StringBuilder", "append", "(Ljava/lang/String;)Ljava/lang/StringBuilder;"⟩ : MethodName)) (C := "java/lang/StringBuilder") (Wt := 2) (kc := 1) (ks := 70) (hw _ (List.mem_of_getElem? (i := 58) rfl)) (hw _ (List.mem_of_getElem? (i := 59) rfl)) (nfS (hw _ (List.mem_of_getElem? (i := 61) rfl))) (hw _ (List.mem_of_getElem? (i := 61) rfl)) (hw _ (List.mem_of_getElem? (i := 60) rfl)) (by decide) (a := ab) S5.1 (W' := []) (fun _ q => nomatch q) (Ctr.cal (c_sapG G ab x6 vb h6 S5 F6 (by simp <;> omega) (by simp <;> omega) (by decide)) (hw _ (List.mem_of_getElem? (i := 62) rfl)) (hw _ (List.mem_of_getElem? (i := 42) rfl)) (by decide) (by decide)) rfl (argsL := [(.ref x6)]) (rest := [(.ref ae), (.ref ae)]) (lenOf pd_sap rfl) rfl (Nat.le_of_ble_eq_true rfl) (by decide +kernel) (by decide) (by decide) (fun _ _ q => by obtain ⟨-, va, k, -, -, -, q⟩ := q; exact ⟨[ab], q, fun x hx => by cases List.mem_singleton.mp hx; exact sfE S5.1 (by decide) (by decide)⟩) (fun v7 h7 q7 n7 => ?_)
  obtain ⟨rfl, vc, k7, S7, e7, f7, K7⟩ := q7
  refine ⟨[vc], (fun x hx => by cases List.mem_singleton.mp hx; exact ⟨e7, f7⟩), ?_⟩
  have U7 := ext_keep U6 K7 kb
  refine Run.virtual hK (index := 40) (y := (⟨"java/lang/StringBuilder", "toString", "()Ljava/lang/String;"⟩ : MethodName)) (z := (⟨"java/lang/StringBuilder", "toString", "()Ljava/lang/String;"⟩ : MethodName)) (C := "java/lang/StringBuilder") (Wt := 2) (kc := 2) (ks := 48) (hw _ (List.mem_of_getElem? (i := 130) rfl)) (hw _ (List.mem_of_getElem? (i := 131) rfl)) (nfS (hw _ (List.mem_of_getElem? (i := 133) rfl))) (hw _ (List.mem_of_getElem? (i := 133) rfl)) (hw _ (List.mem_of_getElem? (i := 132) rfl)) (by decide) (a := ab) S7.1 (W' := []) (fun _ q => nomatch q) (Cal.wk (Ctr.cal (c_ts G ab vc h7 S7 (by simp; omega) (by simp; omega)) (hw _ (List.mem_of_getElem? (i := 134) rfl)) (hw _ (List.mem_of_getElem? (i := 42) rfl)) (by decide) (by decide))) rfl (argsL := []) (rest := [(.ref ae), (.ref ae)]) (lenOf pd_ts rfl) rfl (Nat.le_of_ble_eq_true rfl) (by decide +kernel) (by decide) (by decide) (fun v8 h8 q8 n8 => ?_)
  obtain ⟨a8, rfl, F8, E8⟩ := q8
  have U8 := Ext.tr U7 E8
  refine Run.specialK hK hKn (index := 69) (y := (⟨"com/example/forehall/forehall/StartupException", "<init>", "(Ljava/lang/String;)V"⟩ : MethodName)) (Wt := 1) (kc := 1) (ks := 2752) rfl (hw _ (List.mem_of_getElem? (i := 169) rfl)) (hw _ (List.mem_of_getElem? (i := 170) rfl)) (hw _ (List.mem_of_getElem? (i := 171) rfl)) (by decide) (a := ae) (W' := []) (fun _ q => nomatch q) (CtrK.cal (c_si G ae a8 h8 hlt TS (Ne.ext U8)) (hw _ (List.mem_of_getElem? (i := 171) rfl)) (hw _ (List.mem_of_getElem? (i := 39) rfl)) (by decide) (by decide)) rfl (argsL := [.ref a8]) (rest := [.ref ae]) (lenOf pd_ti rfl) rfl (Nat.le_of_ble_eq_true rfl) (by decide +kernel) (by decide) (by decide) (fun v9 h9 q9 n9 => ?_)
  obtain ⟨rfl, K9, X9, M9⟩ := q9
  have F9 := F8.keep1 K9 (Xe.ext U8) (hw _ (List.mem_of_getElem? (i := 38) rfl)) (by decide)
  exact Run.retw hK (i := .areturn) rfl (Or.inr (Or.inr (Or.inr (Or.inr ⟨rfl, rfl, rfl⟩)))) (by decide +kernel) (by decide) (by decide) ⟨ae, a8, rfl, X9, M9, F9, ext_keep (Ext.tr Ee U8) K9 (fun x hx => by cases List.mem_singleton.mp hx; exact ge)⟩
set_option maxRecDepth 65536 in
set_option maxHeartbeats 40000000 in
theorem c_law {l : Launch} {Z : State} {a0 : Array Value} {z0 : Int32} {fm : Value} (G : Env1 Z a0 z0 fm) (i0 i1 i2 : Int32) (h : Heap) (hlt : l.stackTraces = true) {u0 u1 : Value} (TS : ThSt Z u0 u1) : CtrK (fun _ _ _ s _ => Jvm.D.framesKnown s = true ∧ Jvm.D.tablesKnown s = true) Z consts_1 false l tables_1 x code maxLocals ret ({ frames := 11, cells := 48, slots := 9280, locals := 224 } : Room) #[(.int i0), (.int i1), (.int i2)] h [] (fun v h' => v = some (.int 1)) := by
  obtain ⟨hw, hEL, O2, P5, O4⟩ := id G
  refine CtrK.of_run (a0 := a0) (L0 := #[.val (.int i0), .val (.int i1), .val (.int i2), .unset, .unset, .unset, .unset, .unset, .unset, .unset, .unset, .unset, .unset, .unset]) (plainFor_of_name pn_law) hEL (by first | (simp [argsToLocals, Value.category, maxLocals]; done) | rfl) (fun _ _ _ _ _ _ _ _ _ X q => X.known q.2 q.1) (fun K hK hKn => ?_)
  replace hK : Ok Z consts_1 a0 l "com/example/forehall/forehall/PathTemplateNotRootedPinLaw" "law" code 14 (some .boolean) ({ frames := 11, cells := 48, slots := 9280, locals := 224 } : Room) K := hK
  refine Run.pure hK (seg := [(0, .iload_n 0, 1), (1, .sipush 255, 3), (4, .iand, 1), (5, .i2c, 1)]) (by decide +kernel) (pc' := 6) (L' := #[.val (.int i0), .val (.int i1), .val (.int i2), .unset, .unset, .unset, .unset, .unset, .unset, .unset, .unset, .unset, .unset, .unset]) (S' := [(.int (i0 &&& (255 : Int32)).toUInt32.toUInt16.toUInt32.toInt32)]) rfl ?_
  rw [i2c255]
  obtain ⟨a, e_a⟩ : ∃ z : Int32, z = i0 &&& (255 : Int32) := ⟨_, rfl⟩
  rw [← e_a]
  have b_a : ¬ a < 0 ∧ ¬ (255 : Int32) < a := by rw [e_a]; exact m255 _
  refine Run.pure hK (seg := [(6, .istore_n 3, 1), (7, .iload_n 0, 1), (8, .bipush 8, 2), (10, .iushr, 1), (11, .sipush 255, 3), (14, .iand, 1), (15, .i2c, 1)]) (by decide +kernel) (pc' := 16) (L' := #[.val (.int i0), .val (.int i1), .val (.int i2), .val (.int a), .unset, .unset, .unset, .unset, .unset, .unset, .unset, .unset, .unset, .unset]) (S' := [(.int ((XT.ushr i0 (8 : Int32)) &&& (255 : Int32)).toUInt32.toUInt16.toUInt32.toInt32)]) rfl ?_
  rw [i2c255]
  obtain ⟨b, e_b⟩ : ∃ z : Int32, z = (XT.ushr i0 (8 : Int32)) &&& (255 : Int32) := ⟨_, rfl⟩
  rw [← e_b]
  have b_b : ¬ b < 0 ∧ ¬ (255 : Int32) < b := by rw [e_b]; exact m255 _
  refine Run.pure hK (seg := [(16, .istore 4, 2), (18, .iload_n 1, 1), (19, .sipush 255, 3), (22, .iand, 1), (23, .i2c, 1)]) (by decide +kernel) (pc' := 24) (L' := #[.val (.int i0), .val (.int i1), .val (.int i2), .val (.int a), .val (.int b), .unset, .unset, .unset, .unset, .unset, .unset, .unset, .unset, .unset]) (S' := [(.int (i1 &&& (255 : Int32)).toUInt32.toUInt16.toUInt32.toInt32)]) rfl ?_
  rw [i2c255]
  obtain ⟨x, e_x⟩ : ∃ z : Int32, z = i1 &&& (255 : Int32) := ⟨_, rfl⟩
  rw [← e_x]
  have b_x : ¬ x < 0 ∧ ¬ (255 : Int32) < x := by rw [e_x]; exact m255 _
  refine Run.pure hK (seg := [(24, .istore 5, 2), (26, .iload_n 1, 1), (27, .bipush 8, 2), (29, .iushr, 1), (30, .sipush 255, 3), (33, .iand, 1), (34, .i2c, 1)]) (by decide +kernel) (pc' := 35) (L' := #[.val (.int i0), .val (.int i1), .val (.int i2), .val (.int a), .val (.int b), .val (.int x), .unset, .unset, .unset, .unset, .unset, .unset, .unset, .unset]) (S' := [(.int ((XT.ushr i1 (8 : Int32)) &&& (255 : Int32)).toUInt32.toUInt16.toUInt32.toInt32)]) rfl ?_
  rw [i2c255]
  obtain ⟨y, e_y⟩ : ∃ z : Int32, z = (XT.ushr i1 (8 : Int32)) &&& (255 : Int32) := ⟨_, rfl⟩
  rw [← e_y]
  have b_y : ¬ y < 0 ∧ ¬ (255 : Int32) < y := by rw [e_y]; exact m255 _
  refine Run.pure hK (seg := [(35, .istore 6, 2), (37, .iload_n 2, 1), (38, .iconst 1, 1), (39, .iand, 1)]) (by decide +kernel) (pc' := 40) (L' := #[.val (.int i0), .val (.int i1), .val (.int i2), .val (.int a), .val (.int b), .val (.int x), .val (.int y), .unset, .unset, .unset, .unset, .unset, .unset, .unset]) (S' := [(.int (i2 &&& (1 : Int32)))]) rfl ?_
  suffices s1 : ∀ g1 : Int32, Run Z consts_1 false K (fun v h' => v = some (.int 1)) [] h 0 0 48 #[.val (.int i0), .val (.int i1), .val (.int i2), .val (.int a), .val (.int b), .val (.int x), .val (.int y), .unset, .unset, .unset, .unset, .unset, .unset, .unset] [(.int g1)] by
    refine Run.ifz hK (cd := .eq) (o := 7) (by decide +kernel) (by decide) (pc' := 47) rfl (fun r => ?_) (fun r => ?_)
    · replace r := (h_eq _ _).1 r
      refine Run.pure hK (seg := [(47, .iconst 0, 1)]) (by decide +kernel) (pc' := 48) (L' := #[.val (.int i0), .val (.int i1), .val (.int i2), .val (.int a), .val (.int b), .val (.int x), .val (.int y), .unset, .unset, .unset, .unset, .unset, .unset, .unset]) (S' := [(.int (0 : Int32))]) rfl ?_
      exact s1 _
    · replace r := (h_eq _ _).2 r
      refine Run.pure hK (seg := [(43, .iconst 1, 1), (44, .goto 4, 3)]) (by decide +kernel) (pc' := 48) (L' := #[.val (.int i0), .val (.int i1), .val (.int i2), .val (.int a), .val (.int b), .val (.int x), .val (.int y), .unset, .unset, .unset, .unset, .unset, .unset, .unset]) (S' := [(.int (1 : Int32))]) rfl ?_
      exact s1 _
  intro g1
  refine Run.pure hK (seg := [(48, .istore 7, 2), (50, .iload_n 2, 1), (51, .iconst 2, 1), (52, .iand, 1)]) (by decide +kernel) (pc' := 53) (L' := #[.val (.int i0), .val (.int i1), .val (.int i2), .val (.int a), .val (.int b), .val (.int x), .val (.int y), .val (.int g1), .unset, .unset, .unset, .unset, .unset, .unset]) (S' := [(.int (i2 &&& (2 : Int32)))]) rfl ?_
  suffices s2 : ∀ g2 : Int32, Run Z consts_1 false K (fun v h' => v = some (.int 1)) [] h 0 0 61 #[.val (.int i0), .val (.int i1), .val (.int i2), .val (.int a), .val (.int b), .val (.int x), .val (.int y), .val (.int g1), .unset, .unset, .unset, .unset, .unset, .unset] [(.int g2)] by
    refine Run.ifz hK (cd := .eq) (o := 7) (by decide +kernel) (by decide) (pc' := 60) rfl (fun r => ?_) (fun r => ?_)
    · replace r := (h_eq _ _).1 r
      refine Run.pure hK (seg := [(60, .iconst 0, 1)]) (by decide +kernel) (pc' := 61) (L' := #[.val (.int i0), .val (.int i1), .val (.int i2), .val (.int a), .val (.int b), .val (.int x), .val (.int y), .val (.int g1), .unset, .unset, .unset, .unset, .unset, .unset]) (S' := [(.int (0 : Int32))]) rfl ?_
      exact s2 _
    · replace r := (h_eq _ _).2 r
      refine Run.pure hK (seg := [(56, .iconst 1, 1), (57, .goto 4, 3)]) (by decide +kernel) (pc' := 61) (L' := #[.val (.int i0), .val (.int i1), .val (.int i2), .val (.int a), .val (.int b), .val (.int x), .val (.int y), .val (.int g1), .unset, .unset, .unset, .unset, .unset, .unset]) (S' := [(.int (1 : Int32))]) rfl ?_
      exact s2 _
  intro g2
  refine Run.pure hK (seg := [(61, .istore 8, 2)]) (by decide +kernel) (pc' := 63) (L' := #[.val (.int i0), .val (.int i1), .val (.int i2), .val (.int a), .val (.int b), .val (.int x), .val (.int y), .val (.int g1), .val (.int g2), .unset, .unset, .unset, .unset, .unset]) (S' := []) rfl ?_
  refine Run.old (fun hO3 => ?_)
  refine Run.pure hK (seg := [(63, .iload 7, 2)]) (by decide +kernel) (pc' := 65) (L' := #[.val (.int i0), .val (.int i1), .val (.int i2), .val (.int a), .val (.int b), .val (.int x), .val (.int y), .val (.int g1), .val (.int g2), .unset, .unset, .unset, .unset, .unset]) (S' := [(.int g1)]) rfl ?_
  suffices s3 : ∀ (f3 : Heap) (sC : Addr), Str Z f3 sC (Cn g1 a b) → Ext h f3 → Run Z consts_1 false K (fun v h' => v = some (.int 1)) [] f3 6 14 100 #[.val (.int i0), .val (.int i1), .val (.int i2), .val (.int a), .val (.int b), .val (.int x), .val (.int y), .val (.int g1), .val (.int g2), .unset, .unset, .unset, .unset, .unset] [(.ref sC)] by
    refine Run.ifz hK (cd := .eq) (o := 25) (by decide +kernel) (by decide) (pc' := 90) rfl (fun r => ?_) (fun r => ?_)
    · replace r := (h_eq _ _).1 r
      refine Run.new hK (index := 7) (C := "java/lang/String") (n := 4) (hw _ (List.mem_of_getElem? (i := 0) rfl)) (hw _ (List.mem_of_getElem? (i := 1) rfl)) (hw _ (List.mem_of_getElem? (i := 2) rfl)) (by decide +kernel) (by decide) (by decide) (fun hu Eu Xu Du => ?_)
      obtain ⟨au, zu⟩ : ∃ z, z = h.size := ⟨_, rfl⟩
      rw [← zu]
      rw [← zu] at Xu Du
      refine Run.pure hK (seg := [(93, .dup, 1), (94, .iconst 0, 1)]) (by decide +kernel) (pc' := 95) (L' := #[.val (.int i0), .val (.int i1), .val (.int i2), .val (.int a), .val (.int b), .val (.int x), .val (.int y), .val (.int g1), .val (.int g2), .unset, .unset, .unset, .unset, .unset]) (S' := [(.int (0 : Int32)), (.ref au), (.ref au)]) rfl ?_
      have Vu := Du (Or.inr (hw _ (List.mem_of_getElem? (i := 16) rfl))) (ty := .array .byte) (by decide)
      have Cu := Du (Or.inr (hw _ (List.mem_of_getElem? (i := 17) rfl))) (ty := .byte) (by decide)
      refine Run.newarr hK (aty := .char) (hw _ (List.mem_of_getElem? (i := 3) rfl)) (by decide +kernel) (by decide) (cap := 0) (by decide) (by decide) (by decide) (by decide) (fun hd kd Ed Ad => ?_)
      obtain ⟨ad, zd⟩ : ∃ z, z = hu.size := ⟨_, rfl⟩
      rw [← zd]
      rw [← zd] at Ad
      have nud : au ≠ ad := fun z => absurd Xu.lt (by rw [z, zd]; exact Nat.lt_irrefl _)
      have gd : h.size ≤ ad := by rw [zd]; exact Eu.1
      have gu : h.size ≤ au := by rw [zu]; exact Nat.le_refl _
      replace Xu := Xu.ext Ed
      replace Vu := Vu.ext Ed
      replace Cu := Cu.ext Ed
      have T0 := Ext.tr Eu Ed
      have gdz := Nat.le_trans hO3.1 gd
      refine Run.special hK (index := 9) (y := (⟨"java/lang/String", "<init>", "([C)V"⟩ : MethodName)) (Wt := 1) (kc := 4) (ks := 8) rfl (hw _ (List.mem_of_getElem? (i := 4) rfl)) (hw _ (List.mem_of_getElem? (i := 5) rfl)) (hw _ (List.mem_of_getElem? (i := 6) rfl)) (by decide) (a := au) (fun _ q => q) (cal_newS G (cs := []) (Nat.le_trans hO3.1 gu) (by simp) Xu Vu Cu Ad rfl (Nat.le_of_ble_eq_true rfl) (fun c hc => by cases hc) (by decide) (by decide) (kc := 4) (ks := 8) (by decide) (by decide) (Nat.le_of_ble_eq_true rfl)) rfl (argsL := [(.ref ad)]) (rest := [(.ref au)]) (lenOf pd_s1 rfl) rfl (Nat.le_of_ble_eq_true rfl) (by decide +kernel) (by decide) (by decide) (fun vi hi qi ni => ?_)
      obtain ⟨rfl, Fi, Ki⟩ := qi
      have Ti := ext_keep T0 Ki (fun x hx => by cases List.mem_singleton.mp hx; exact gu)
      refine Run.less (W' := []) ?_ (fun _ q => nomatch q)
      refine Run.mono (s3 _ _ ?_ Ti) (by decide) (by decide)
      rw [Cn0 r]; exact Fi
    · replace r := (h_eq _ _).2 r
      refine Run.new hK (index := 7) (C := "java/lang/String") (n := 4) (hw _ (List.mem_of_getElem? (i := 0) rfl)) (hw _ (List.mem_of_getElem? (i := 1) rfl)) (hw _ (List.mem_of_getElem? (i := 2) rfl)) (by decide +kernel) (by decide) (by decide) (fun hu Eu Xu Du => ?_)
      obtain ⟨au, zu⟩ : ∃ z, z = h.size := ⟨_, rfl⟩
      rw [← zu]
      rw [← zu] at Xu Du
      refine Run.pure hK (seg := [(71, .dup, 1), (72, .iconst 2, 1)]) (by decide +kernel) (pc' := 73) (L' := #[.val (.int i0), .val (.int i1), .val (.int i2), .val (.int a), .val (.int b), .val (.int x), .val (.int y), .val (.int g1), .val (.int g2), .unset, .unset, .unset, .unset, .unset]) (S' := [(.int (2 : Int32)), (.ref au), (.ref au)]) rfl ?_
      have Vu := Du (Or.inr (hw _ (List.mem_of_getElem? (i := 16) rfl))) (ty := .array .byte) (by decide)
      have Cu := Du (Or.inr (hw _ (List.mem_of_getElem? (i := 17) rfl))) (ty := .byte) (by decide)
      refine Run.newarr hK (aty := .char) (hw _ (List.mem_of_getElem? (i := 3) rfl)) (by decide +kernel) (by decide) (cap := 2) (by decide) (by decide) (by decide) (by decide) (fun hd kd Ed Ad => ?_)
      obtain ⟨ad, zd⟩ : ∃ z, z = hu.size := ⟨_, rfl⟩
      rw [← zd]
      rw [← zd] at Ad
      have nud : au ≠ ad := fun z => absurd Xu.lt (by rw [z, zd]; exact Nat.lt_irrefl _)
      have gd : h.size ≤ ad := by rw [zd]; exact Eu.1
      have gu : h.size ≤ au := by rw [zu]; exact Nat.le_refl _
      replace Xu := Xu.ext Ed
      replace Vu := Vu.ext Ed
      replace Cu := Cu.ext Ed
      have T0 := Ext.tr Eu Ed
      have gdz := Nat.le_trans hO3.1 gd
      refine Run.pure hK (seg := [(75, .dup, 1), (76, .iconst 0, 1), (77, .iload_n 3, 1)]) (by decide +kernel) (pc' := 78) (L' := #[.val (.int i0), .val (.int i1), .val (.int i2), .val (.int a), .val (.int b), .val (.int x), .val (.int y), .val (.int g1), .val (.int g2), .unset, .unset, .unset, .unset, .unset]) (S' := [(.int a), (.int (0 : Int32)), (.ref ad), (.ref ad), (.ref au), (.ref au)]) rfl ?_
      refine Run.cst hK Ad ⟨by decide, by decide⟩ gdz (by decide +kernel) (fun hd0 Wd0 Bd => ?_)
      replace Ad : Arv Z hd0 ad kd .char (2 : Int32) [(.int a), (.int (0 : Int32))] (.int 0) := by rw [nc b_a] at Bd; exact Bd
      clear Bd
      replace Vu := Vu.other Wd0 (Or.inl nud)
      replace Cu := Cu.other Wd0 (Or.inl nud)
      replace Xu := Xu.wr Wd0
      replace T0 := ext_wr T0 Wd0 gd
      clear Wd0
      refine Run.pure hK (seg := [(79, .dup, 1), (80, .iconst 1, 1), (81, .iload 4, 2)]) (by decide +kernel) (pc' := 83) (L' := #[.val (.int i0), .val (.int i1), .val (.int i2), .val (.int a), .val (.int b), .val (.int x), .val (.int y), .val (.int g1), .val (.int g2), .unset, .unset, .unset, .unset, .unset]) (S' := [(.int b), (.int (1 : Int32)), (.ref ad), (.ref ad), (.ref au), (.ref au)]) rfl ?_
      refine Run.cst hK Ad ⟨by decide, by decide⟩ gdz (by decide +kernel) (fun hd1 Wd1 Bd => ?_)
      replace Ad : Arv Z hd1 ad kd .char (2 : Int32) [(.int a), (.int b)] (.int 0) := by rw [nc b_b] at Bd; exact Bd
      clear Bd
      replace Vu := Vu.other Wd1 (Or.inl nud)
      replace Cu := Cu.other Wd1 (Or.inl nud)
      replace Xu := Xu.wr Wd1
      replace T0 := ext_wr T0 Wd1 gd
      clear Wd1
      refine Run.special hK (index := 9) (y := (⟨"java/lang/String", "<init>", "([C)V"⟩ : MethodName)) (Wt := 1) (kc := 4) (ks := 8) rfl (hw _ (List.mem_of_getElem? (i := 4) rfl)) (hw _ (List.mem_of_getElem? (i := 5) rfl)) (hw _ (List.mem_of_getElem? (i := 6) rfl)) (by decide) (a := au) (fun _ q => q) (cal_newS G (cs := [a, b]) (Nat.le_trans hO3.1 gu) (by simp) Xu Vu Cu Ad rfl (Nat.le_of_ble_eq_true rfl) (fun c hc => by simp only [List.mem_cons, List.not_mem_nil, or_false] at hc; rcases hc with rfl | rfl <;> first | decide | exact b_a | exact b_b) (by decide) (by decide) (kc := 4) (ks := 8) (by decide) (by decide) (Nat.le_of_ble_eq_true rfl)) rfl (argsL := [(.ref ad)]) (rest := [(.ref au)]) (lenOf pd_s1 rfl) rfl (Nat.le_of_ble_eq_true rfl) (by decide +kernel) (by decide) (by decide) (fun vi hi qi ni => ?_)
      obtain ⟨rfl, Fi, Ki⟩ := qi
      have Ti := ext_keep T0 Ki (fun x hx => by cases List.mem_singleton.mp hx; exact gu)
      refine Run.pure hK (seg := [(87, .goto 13, 3)]) (by decide +kernel) (pc' := 100) (L' := #[.val (.int i0), .val (.int i1), .val (.int i2), .val (.int a), .val (.int b), .val (.int x), .val (.int y), .val (.int g1), .val (.int g2), .unset, .unset, .unset, .unset, .unset]) (S' := [(.ref au)]) rfl ?_
      refine Run.less (W' := []) ?_ (fun _ q => nomatch q)
      refine Run.mono (s3 _ _ ?_ Ti) (by decide) (by decide)
      rw [Cn1 r]; exact Fi
  intro f3 sC FsC EsC
  refine Run.old (fun hO4 => ?_)
  refine Run.pure hK (seg := [(100, .astore 9, 2), (102, .iload 8, 2)]) (by decide +kernel) (pc' := 104) (L' := #[.val (.int i0), .val (.int i1), .val (.int i2), .val (.int a), .val (.int b), .val (.int x), .val (.int y), .val (.int g1), .val (.int g2), .val (.ref sC), .unset, .unset, .unset, .unset]) (S' := [(.int g2)]) rfl ?_
  suffices s4 : ∀ (f4 : Heap) (sP : Addr), Str Z f4 sP (Cn g2 x y) → Ext f3 f4 → Run Z consts_1 false K (fun v h' => v = some (.int 1)) [] f4 12 28 140 #[.val (.int i0), .val (.int i1), .val (.int i2), .val (.int a), .val (.int b), .val (.int x), .val (.int y), .val (.int g1), .val (.int g2), .val (.ref sC), .unset, .unset, .unset, .unset] [(.ref sP)] by
    refine Run.ifz hK (cd := .eq) (o := 26) (by decide +kernel) (by decide) (pc' := 130) rfl (fun r => ?_) (fun r => ?_)
    · replace r := (h_eq _ _).1 r
      refine Run.new hK (index := 7) (C := "java/lang/String") (n := 4) (hw _ (List.mem_of_getElem? (i := 0) rfl)) (hw _ (List.mem_of_getElem? (i := 1) rfl)) (hw _ (List.mem_of_getElem? (i := 2) rfl)) (by decide +kernel) (by decide) (by decide) (fun hu Eu Xu Du => ?_)
      obtain ⟨au, zu⟩ : ∃ z, z = f3.size := ⟨_, rfl⟩
      rw [← zu]
      rw [← zu] at Xu Du
      refine Run.pure hK (seg := [(133, .dup, 1), (134, .iconst 0, 1)]) (by decide +kernel) (pc' := 135) (L' := #[.val (.int i0), .val (.int i1), .val (.int i2), .val (.int a), .val (.int b), .val (.int x), .val (.int y), .val (.int g1), .val (.int g2), .val (.ref sC), .unset, .unset, .unset, .unset]) (S' := [(.int (0 : Int32)), (.ref au), (.ref au)]) rfl ?_
      have Vu := Du (Or.inr (hw _ (List.mem_of_getElem? (i := 16) rfl))) (ty := .array .byte) (by decide)
      have Cu := Du (Or.inr (hw _ (List.mem_of_getElem? (i := 17) rfl))) (ty := .byte) (by decide)
      refine Run.newarr hK (aty := .char) (hw _ (List.mem_of_getElem? (i := 3) rfl)) (by decide +kernel) (by decide) (cap := 0) (by decide) (by decide) (by decide) (by decide) (fun hd kd Ed Ad => ?_)
      obtain ⟨ad, zd⟩ : ∃ z, z = hu.size := ⟨_, rfl⟩
      rw [← zd]
      rw [← zd] at Ad
      have nud : au ≠ ad := fun z => absurd Xu.lt (by rw [z, zd]; exact Nat.lt_irrefl _)
      have gd : f3.size ≤ ad := by rw [zd]; exact Eu.1
      have gu : f3.size ≤ au := by rw [zu]; exact Nat.le_refl _
      replace Xu := Xu.ext Ed
      replace Vu := Vu.ext Ed
      replace Cu := Cu.ext Ed
      have T0 := Ext.tr Eu Ed
      have gdz := Nat.le_trans hO4.1 gd
      refine Run.special hK (index := 9) (y := (⟨"java/lang/String", "<init>", "([C)V"⟩ : MethodName)) (Wt := 1) (kc := 4) (ks := 8) rfl (hw _ (List.mem_of_getElem? (i := 4) rfl)) (hw _ (List.mem_of_getElem? (i := 5) rfl)) (hw _ (List.mem_of_getElem? (i := 6) rfl)) (by decide) (a := au) (fun _ q => q) (cal_newS G (cs := []) (Nat.le_trans hO4.1 gu) (by simp) Xu Vu Cu Ad rfl (Nat.le_of_ble_eq_true rfl) (fun c hc => by cases hc) (by decide) (by decide) (kc := 4) (ks := 8) (by decide) (by decide) (Nat.le_of_ble_eq_true rfl)) rfl (argsL := [(.ref ad)]) (rest := [(.ref au)]) (lenOf pd_s1 rfl) rfl (Nat.le_of_ble_eq_true rfl) (by decide +kernel) (by decide) (by decide) (fun vi hi qi ni => ?_)
      obtain ⟨rfl, Fi, Ki⟩ := qi
      have Ti := ext_keep T0 Ki (fun x hx => by cases List.mem_singleton.mp hx; exact gu)
      refine Run.less (W' := []) ?_ (fun _ q => nomatch q)
      refine Run.mono (s4 _ _ ?_ Ti) (by decide) (by decide)
      rw [Cn0 r]; exact Fi
    · replace r := (h_eq _ _).2 r
      refine Run.new hK (index := 7) (C := "java/lang/String") (n := 4) (hw _ (List.mem_of_getElem? (i := 0) rfl)) (hw _ (List.mem_of_getElem? (i := 1) rfl)) (hw _ (List.mem_of_getElem? (i := 2) rfl)) (by decide +kernel) (by decide) (by decide) (fun hu Eu Xu Du => ?_)
      obtain ⟨au, zu⟩ : ∃ z, z = f3.size := ⟨_, rfl⟩
      rw [← zu]
      rw [← zu] at Xu Du
      refine Run.pure hK (seg := [(110, .dup, 1), (111, .iconst 2, 1)]) (by decide +kernel) (pc' := 112) (L' := #[.val (.int i0), .val (.int i1), .val (.int i2), .val (.int a), .val (.int b), .val (.int x), .val (.int y), .val (.int g1), .val (.int g2), .val (.ref sC), .unset, .unset, .unset, .unset]) (S' := [(.int (2 : Int32)), (.ref au), (.ref au)]) rfl ?_
      have Vu := Du (Or.inr (hw _ (List.mem_of_getElem? (i := 16) rfl))) (ty := .array .byte) (by decide)
      have Cu := Du (Or.inr (hw _ (List.mem_of_getElem? (i := 17) rfl))) (ty := .byte) (by decide)
      refine Run.newarr hK (aty := .char) (hw _ (List.mem_of_getElem? (i := 3) rfl)) (by decide +kernel) (by decide) (cap := 2) (by decide) (by decide) (by decide) (by decide) (fun hd kd Ed Ad => ?_)
      obtain ⟨ad, zd⟩ : ∃ z, z = hu.size := ⟨_, rfl⟩
      rw [← zd]
      rw [← zd] at Ad
      have nud : au ≠ ad := fun z => absurd Xu.lt (by rw [z, zd]; exact Nat.lt_irrefl _)
      have gd : f3.size ≤ ad := by rw [zd]; exact Eu.1
      have gu : f3.size ≤ au := by rw [zu]; exact Nat.le_refl _
      replace Xu := Xu.ext Ed
      replace Vu := Vu.ext Ed
      replace Cu := Cu.ext Ed
      have T0 := Ext.tr Eu Ed
      have gdz := Nat.le_trans hO4.1 gd
      refine Run.pure hK (seg := [(114, .dup, 1), (115, .iconst 0, 1), (116, .iload 5, 2)]) (by decide +kernel) (pc' := 118) (L' := #[.val (.int i0), .val (.int i1), .val (.int i2), .val (.int a), .val (.int b), .val (.int x), .val (.int y), .val (.int g1), .val (.int g2), .val (.ref sC), .unset, .unset, .unset, .unset]) (S' := [(.int x), (.int (0 : Int32)), (.ref ad), (.ref ad), (.ref au), (.ref au)]) rfl ?_
      refine Run.cst hK Ad ⟨by decide, by decide⟩ gdz (by decide +kernel) (fun hd0 Wd0 Bd => ?_)
      replace Ad : Arv Z hd0 ad kd .char (2 : Int32) [(.int x), (.int (0 : Int32))] (.int 0) := by rw [nc b_x] at Bd; exact Bd
      clear Bd
      replace Vu := Vu.other Wd0 (Or.inl nud)
      replace Cu := Cu.other Wd0 (Or.inl nud)
      replace Xu := Xu.wr Wd0
      replace T0 := ext_wr T0 Wd0 gd
      clear Wd0
      refine Run.pure hK (seg := [(119, .dup, 1), (120, .iconst 1, 1), (121, .iload 6, 2)]) (by decide +kernel) (pc' := 123) (L' := #[.val (.int i0), .val (.int i1), .val (.int i2), .val (.int a), .val (.int b), .val (.int x), .val (.int y), .val (.int g1), .val (.int g2), .val (.ref sC), .unset, .unset, .unset, .unset]) (S' := [(.int y), (.int (1 : Int32)), (.ref ad), (.ref ad), (.ref au), (.ref au)]) rfl ?_
      refine Run.cst hK Ad ⟨by decide, by decide⟩ gdz (by decide +kernel) (fun hd1 Wd1 Bd => ?_)
      replace Ad : Arv Z hd1 ad kd .char (2 : Int32) [(.int x), (.int y)] (.int 0) := by rw [nc b_y] at Bd; exact Bd
      clear Bd
      replace Vu := Vu.other Wd1 (Or.inl nud)
      replace Cu := Cu.other Wd1 (Or.inl nud)
      replace Xu := Xu.wr Wd1
      replace T0 := ext_wr T0 Wd1 gd
      clear Wd1
      refine Run.special hK (index := 9) (y := (⟨"java/lang/String", "<init>", "([C)V"⟩ : MethodName)) (Wt := 1) (kc := 4) (ks := 8) rfl (hw _ (List.mem_of_getElem? (i := 4) rfl)) (hw _ (List.mem_of_getElem? (i := 5) rfl)) (hw _ (List.mem_of_getElem? (i := 6) rfl)) (by decide) (a := au) (fun _ q => q) (cal_newS G (cs := [x, y]) (Nat.le_trans hO4.1 gu) (by simp) Xu Vu Cu Ad rfl (Nat.le_of_ble_eq_true rfl) (fun c hc => by simp only [List.mem_cons, List.not_mem_nil, or_false] at hc; rcases hc with rfl | rfl <;> first | decide | exact b_x | exact b_y) (by decide) (by decide) (kc := 4) (ks := 8) (by decide) (by decide) (Nat.le_of_ble_eq_true rfl)) rfl (argsL := [(.ref ad)]) (rest := [(.ref au)]) (lenOf pd_s1 rfl) rfl (Nat.le_of_ble_eq_true rfl) (by decide +kernel) (by decide) (by decide) (fun vi hi qi ni => ?_)
      obtain ⟨rfl, Fi, Ki⟩ := qi
      have Ti := ext_keep T0 Ki (fun x hx => by cases List.mem_singleton.mp hx; exact gu)
      refine Run.pure hK (seg := [(127, .goto 13, 3)]) (by decide +kernel) (pc' := 140) (L' := #[.val (.int i0), .val (.int i1), .val (.int i2), .val (.int a), .val (.int b), .val (.int x), .val (.int y), .val (.int g1), .val (.int g2), .val (.ref sC), .unset, .unset, .unset, .unset]) (S' := [(.ref au)]) rfl ?_
      refine Run.less (W' := []) ?_ (fun _ q => nomatch q)
      refine Run.mono (s4 _ _ ?_ Ti) (by decide) (by decide)
      rw [Cn1 r]; exact Fi
  intro f4 sP FsP EsP
  replace FsC := FsC.ext EsP
  refine Run.old (fun hO5 => ?_)
  refine Run.pure hK (seg := [(140, .astore 10, 2)]) (by decide +kernel) (pc' := 142) (L' := #[.val (.int i0), .val (.int i1), .val (.int i2), .val (.int a), .val (.int b), .val (.int x), .val (.int y), .val (.int g1), .val (.int g2), .val (.ref sC), .val (.ref sP), .unset, .unset, .unset]) (S' := []) rfl ?_
  suffices s5 : ∀ (f5 : Heap) (sE : Addr), Str Z f5 sE (Cn g1 a b ++ ([105, 116, 115, 32, 109, 97, 112, 112, 101, 100, 32, 112, 97, 116, 104, 32, 34] : List Int32) ++ Cn g2 x y ++ ([34, 32, 100, 111, 101, 115, 32, 110, 111, 116, 32, 115, 116, 97, 114, 116, 32, 119, 105, 116, 104, 32, 47] : List Int32)) → Ext f4 f5 → Run Z consts_1 false K (fun v h' => v = some (.int 1)) [] f5 18 120 1205 #[.val (.int i0), .val (.int i1), .val (.int i2), .val (.int a), .val (.int b), .val (.int x), .val (.int y), .val (.int g1), .val (.int g2), .val (.ref sC), .val (.ref sP), .val (.ref sE), .unset, .unset] [] by
    refine Run.pure hK (seg := [(142, .iload 7, 2)]) (by decide +kernel) (pc' := 144) (L' := #[.val (.int i0), .val (.int i1), .val (.int i2), .val (.int a), .val (.int b), .val (.int x), .val (.int y), .val (.int g1), .val (.int g2), .val (.ref sC), .val (.ref sP), .unset, .unset, .unset]) (S' := [(.int g1)]) rfl ?_
    refine Run.ifz hK (cd := .eq) (o := 281) (by decide +kernel) (by decide) (pc' := 425) rfl (fun r1 => ?_) (fun r1 => ?_)
    · replace r1 := (h_eq _ _).1 r1
      refine Run.pure hK (seg := [(425, .iload 7, 2)]) (by decide +kernel) (pc' := 427) (L' := #[.val (.int i0), .val (.int i1), .val (.int i2), .val (.int a), .val (.int b), .val (.int x), .val (.int y), .val (.int g1), .val (.int g2), .val (.ref sC), .val (.ref sP), .unset, .unset, .unset]) (S' := [(.int g1)]) rfl ?_
      refine Run.ifz hK (cd := .eq) (o := 264) (by decide +kernel) (by decide) (pc' := 691) rfl (fun _ => ?_) (fun q => by replace q := (h_eq _ _).2 q; exact absurd r1 q)
      refine Run.pure hK (seg := [(691, .iload 8, 2)]) (by decide +kernel) (pc' := 693) (L' := #[.val (.int i0), .val (.int i1), .val (.int i2), .val (.int a), .val (.int b), .val (.int x), .val (.int y), .val (.int g1), .val (.int g2), .val (.ref sC), .val (.ref sP), .unset, .unset, .unset]) (S' := [(.int g2)]) rfl ?_
      refine Run.ifz hK (cd := .eq) (o := 265) (by decide +kernel) (by decide) (pc' := 958) rfl (fun r2 => ?_) (fun r2 => ?_)
      · replace r2 := (h_eq _ _).1 r2
        refine Run.new hK (index := 7) (C := "java/lang/String") (n := 4) (hw _ (List.mem_of_getElem? (i := 0) rfl)) (hw _ (List.mem_of_getElem? (i := 1) rfl)) (hw _ (List.mem_of_getElem? (i := 2) rfl)) (by decide +kernel) (by decide) (by decide) (fun hu Eu Xu Du => ?_)
        obtain ⟨au, zu⟩ : ∃ z, z = f4.size := ⟨_, rfl⟩
        rw [← zu]
        rw [← zu] at Xu Du
        refine Run.pure hK (seg := [(961, .dup, 1), (962, .bipush 40, 2)]) (by decide +kernel) (pc' := 964) (L' := #[.val (.int i0), .val (.int i1), .val (.int i2), .val (.int a), .val (.int b), .val (.int x), .val (.int y), .val (.int g1), .val (.int g2), .val (.ref sC), .val (.ref sP), .unset, .unset, .unset]) (S' := [(.int (40 : Int32)), (.ref au), (.ref au)]) rfl ?_
        have Vu := Du (Or.inr (hw _ (List.mem_of_getElem? (i := 16) rfl))) (ty := .array .byte) (by decide)
        have Cu := Du (Or.inr (hw _ (List.mem_of_getElem? (i := 17) rfl))) (ty := .byte) (by decide)
        refine Run.newarr hK (aty := .char) (hw _ (List.mem_of_getElem? (i := 3) rfl)) (by decide +kernel) (by decide) (cap := 40) (by decide) (by decide) (by decide) (by decide) (fun hd kd Ed Ad => ?_)
        obtain ⟨ad, zd⟩ : ∃ z, z = hu.size := ⟨_, rfl⟩
        rw [← zd]
        rw [← zd] at Ad
        have nud : au ≠ ad := fun z => absurd Xu.lt (by rw [z, zd]; exact Nat.lt_irrefl _)
        have gd : f4.size ≤ ad := by rw [zd]; exact Eu.1
        have gu : f4.size ≤ au := by rw [zu]; exact Nat.le_refl _
        replace Xu := Xu.ext Ed
        replace Vu := Vu.ext Ed
        replace Cu := Cu.ext Ed
        have T0 := Ext.tr Eu Ed
        have gdz := Nat.le_trans hO5.1 gd
        refine Run.pure hK (seg := [(966, .dup, 1), (967, .iconst 0, 1), (968, .bipush 105, 2)]) (by decide +kernel) (pc' := 970) (L' := #[.val (.int i0), .val (.int i1), .val (.int i2), .val (.int a), .val (.int b), .val (.int x), .val (.int y), .val (.int g1), .val (.int g2), .val (.ref sC), .val (.ref sP), .unset, .unset, .unset]) (S' := [(.int (105 : Int32)), (.int (0 : Int32)), (.ref ad), (.ref ad), (.ref au), (.ref au)]) rfl ?_
        refine Run.cst hK Ad ⟨by decide, by decide⟩ gdz (by decide +kernel) (fun hd0 Wd0 Bd => ?_)
        replace Ad : Arv Z hd0 ad kd .char (40 : Int32) [(.int (105 : Int32)), (.int (0 : Int32)), (.int (0 : Int32)), (.int (0 : Int32)), (.int (0 : Int32)), (.int (0 : Int32)), (.int (0 : Int32)), (.int (0 : Int32)), (.int (0 : Int32)), (.int (0 : Int32)), (.int (0 : Int32)), (.int (0 : Int32)), (.int (0 : Int32)), (.int (0 : Int32)), (.int (0 : Int32)), (.int (0 : Int32)), (.int (0 : Int32)), (.int (0 : Int32)), (.int (0 : Int32)), (.int (0 : Int32)), (.int (0 : Int32)), (.int (0 : Int32)), (.int (0 : Int32)), (.int (0 : Int32)), (.int (0 : Int32)), (.int (0 : Int32)), (.int (0 : Int32)), (.int (0 : Int32)), (.int (0 : Int32)), (.int (0 : Int32)), (.int (0 : Int32)), (.int (0 : Int32)), (.int (0 : Int32)), (.int (0 : Int32)), (.int (0 : Int32)), (.int (0 : Int32)), (.int (0 : Int32)), (.int (0 : Int32)), (.int (0 : Int32)), (.int (0 : Int32))] (.int 0) := by exact Bd
        clear Bd
        replace Vu := Vu.other Wd0 (Or.inl nud)
        replace Cu := Cu.other Wd0 (Or.inl nud)
        replace Xu := Xu.wr Wd0
        replace T0 := ext_wr T0 Wd0 gd
        clear Wd0
        refine Run.pure hK (seg := [(971, .dup, 1), (972, .iconst 1, 1), (973, .bipush 116, 2)]) (by decide +kernel) (pc' := 975) (L' := #[.val (.int i0), .val (.int i1), .val (.int i2), .val (.int a), .val (.int b), .val (.int x), .val (.int y), .val (.int g1), .val (.int g2), .val (.ref sC), .val (.ref sP), .unset, .unset, .unset]) (S' := [(.int (116 : Int32)), (.int (1 : Int32)), (.ref ad), (.ref ad), (.ref au), (.ref au)]) rfl ?_
        refine Run.cst hK Ad ⟨by decide, by decide⟩ gdz (by decide +kernel) (fun hd1 Wd1 Bd => ?_)
        replace Ad : Arv Z hd1 ad kd .char (40 : Int32) [(.int (105 : Int32)), (.int (116 : Int32)), (.int (0 : Int32)), (.int (0 : Int32)), (.int (0 : Int32)), (.int (0 : Int32)), (.int (0 : Int32)), (.int (0 : Int32)), (.int (0 : Int32)), (.int (0 : Int32)), (.int (0 : Int32)), (.int (0 : Int32)), (.int (0 : Int32)), (.int (0 : Int32)), (.int (0 : Int32)), (.int (0 : Int32)), (.int (0 : Int32)), (.int (0 : Int32)), (.int (0 : Int32)), (.int (0 : Int32)), (.int (0 : Int32)), (.int (0 : Int32)), (.int (0 : Int32)), (.int (0 : Int32)), (.int (0 : Int32)), (.int (0 : Int32)), (.int (0 : Int32)), (.int (0 : Int32)), (.int (0 : Int32)), (.int (0 : Int32)), (.int (0 : Int32)), (.int (0 : Int32)), (.int (0 : Int32)), (.int (0 : Int32)), (.int (0 : Int32)), (.int (0 : Int32)), (.int (0 : Int32)), (.int (0 : Int32)), (.int (0 : Int32)), (.int (0 : Int32))] (.int 0) := by exact Bd
        clear Bd
        replace Vu := Vu.other Wd1 (Or.inl nud)
        replace Cu := Cu.other Wd1 (Or.inl nud)
        replace Xu := Xu.wr Wd1
        replace T0 := ext_wr T0 Wd1 gd
        clear Wd1
        refine Run.pure hK (seg := [(976, .dup, 1), (977, .iconst 2, 1), (978, .bipush 115, 2)]) (by decide +kernel) (pc' := 980) (L' := #[.val (.int i0), .val (.int i1), .val (.int i2), .val (.int a), .val (.int b), .val (.int x), .val (.int y), .val (.int g1), .val (.int g2), .val (.ref sC), .val (.ref sP), .unset, .unset, .unset]) (S' := [(.int (115 : Int32)), (.int (2 : Int32)), (.ref ad), (.ref ad), (.ref au), (.ref au)]) rfl ?_
        refine Run.cst hK Ad ⟨by decide, by decide⟩ gdz (by decide +kernel) (fun hd2 Wd2 Bd => ?_)
        replace Ad : Arv Z hd2 ad kd .char (40 : Int32) [(.int (105 : Int32)), (.int (116 : Int32)), (.int (115 : Int32)), (.int (0 : Int32)), (.int (0 : Int32)), (.int (0 : Int32)), (.int (0 : Int32)), (.int (0 : Int32)), (.int (0 : Int32)), (.int (0 : Int32)), (.int (0 : Int32)), (.int (0 : Int32)), (.int (0 : Int32)), (.int (0 : Int32)), (.int (0 : Int32)), (.int (0 : Int32)), (.int (0 : Int32)), (.int (0 : Int32)), (.int (0 : Int32)), (.int (0 : Int32)), (.int (0 : Int32)), (.int (0 : Int32)), (.int (0 : Int32)), (.int (0 : Int32)), (.int (0 : Int32)), (.int (0 : Int32)), (.int (0 : Int32)), (.int (0 : Int32)), (.int (0 : Int32)), (.int (0 : Int32)), (.int (0 : Int32)), (.int (0 : Int32)), (.int (0 : Int32)), (.int (0 : Int32)), (.int (0 : Int32)), (.int (0 : Int32)), (.int (0 : Int32)), (.int (0 : Int32)), (.int (0 : Int32)), (.int (0 : Int32))] (.int 0) := by exact Bd
        clear Bd
        replace Vu := Vu.other Wd2 (Or.inl nud)
        replace Cu := Cu.other Wd2 (Or.inl nud)
        replace Xu := Xu.wr Wd2
        replace T0 := ext_wr T0 Wd2 gd
        clear Wd2
        refine Run.pure hK (seg := [(981, .dup, 1), (982, .iconst 3, 1), (983, .bipush 32, 2)]) (by decide +kernel) (pc' := 985) (L' := #[.val (.int i0), .val (.int i1), .val (.int i2), .val (.int a), .val (.int b), .val (.int x), .val (.int y), .val (.int g1), .val (.int g2), .val (.ref sC), .val (.ref sP), .unset, .unset, .unset]) (S' := [(.int (32 : Int32)), (.int (3 : Int32)), (.ref ad), (.ref ad), (.ref au), (.ref au)]) rfl ?_
        refine Run.cst hK Ad ⟨by decide, by decide⟩ gdz (by decide +kernel) (fun hd3 Wd3 Bd => ?_)
        replace Ad : Arv Z hd3 ad kd .char (40 : Int32) [(.int (105 : Int32)), (.int (116 : Int32)), (.int (115 : Int32)), (.int (32 : Int32)), (.int (0 : Int32)), (.int (0 : Int32)), (.int (0 : Int32)), (.int (0 : Int32)), (.int (0 : Int32)), (.int (0 : Int32)), (.int (0 : Int32)), (.int (0 : Int32)), (.int (0 : Int32)), (.int (0 : Int32)), (.int (0 : Int32)), (.int (0 : Int32)), (.int (0 : Int32)), (.int (0 : Int32)), (.int (0 : Int32)), (.int (0 : Int32)), (.int (0 : Int32)), (.int (0 : Int32)), (.int (0 : Int32)), (.int (0 : Int32)), (.int (0 : Int32)), (.int (0 : Int32)), (.int (0 : Int32)), (.int (0 : Int32)), (.int (0 : Int32)), (.int (0 : Int32)), (.int (0 : Int32)), (.int (0 : Int32)), (.int (0 : Int32)), (.int (0 : Int32)), (.int (0 : Int32)), (.int (0 : Int32)), (.int (0 : Int32)), (.int (0 : Int32)), (.int (0 : Int32)), (.int (0 : Int32))] (.int 0) := by exact Bd
        clear Bd
        replace Vu := Vu.other Wd3 (Or.inl nud)
        replace Cu := Cu.other Wd3 (Or.inl nud)
        replace Xu := Xu.wr Wd3
        replace T0 := ext_wr T0 Wd3 gd
        clear Wd3
        refine Run.pure hK (seg := [(986, .dup, 1), (987, .iconst 4, 1), (988, .bipush 109, 2)]) (by decide +kernel) (pc' := 990) (L' := #[.val (.int i0), .val (.int i1), .val (.int i2), .val (.int a), .val (.int b), .val (.int x), .val (.int y), .val (.int g1), .val (.int g2), .val (.ref sC), .val (.ref sP), .unset, .unset, .unset]) (S' := [(.int (109 : Int32)), (.int (4 : Int32)), (.ref ad), (.ref ad), (.ref au), (.ref au)]) rfl ?_
        refine Run.cst hK Ad ⟨by decide, by decide⟩ gdz (by decide +kernel) (fun hd4 Wd4 Bd => ?_)
        replace Ad : Arv Z hd4 ad kd .char (40 : Int32) [(.int (105 : Int32)), (.int (116 : Int32)), (.int (115 : Int32)), (.int (32 : Int32)), (.int (109 : Int32)), (.int (0 : Int32)), (.int (0 : Int32)), (.int (0 : Int32)), (.int (0 : Int32)), (.int (0 : Int32)), (.int (0 : Int32)), (.int (0 : Int32)), (.int (0 : Int32)), (.int (0 : Int32)), (.int (0 : Int32)), (.int (0 : Int32)), (.int (0 : Int32)), (.int (0 : Int32)), (.int (0 : Int32)), (.int (0 : Int32)), (.int (0 : Int32)), (.int (0 : Int32)), (.int (0 : Int32)), (.int (0 : Int32)), (.int (0 : Int32)), (.int (0 : Int32)), (.int (0 : Int32)), (.int (0 : Int32)), (.int (0 : Int32)), (.int (0 : Int32)), (.int (0 : Int32)), (.int (0 : Int32)), (.int (0 : Int32)), (.int (0 : Int32)), (.int (0 : Int32)), (.int (0 : Int32)), (.int (0 : Int32)), (.int (0 : Int32)), (.int (0 : Int32)), (.int (0 : Int32))] (.int 0) := by exact Bd
        clear Bd
        replace Vu := Vu.other Wd4 (Or.inl nud)
        replace Cu := Cu.other Wd4 (Or.inl nud)
        replace Xu := Xu.wr Wd4
        replace T0 := ext_wr T0 Wd4 gd
        clear Wd4
        refine Run.pure hK (seg := [(991, .dup, 1), (992, .iconst 5, 1), (993, .bipush 97, 2)]) (by decide +kernel) (pc' := 995) (L' := #[.val (.int i0), .val (.int i1), .val (.int i2), .val (.int a), .val (.int b), .val (.int x), .val (.int y), .val (.int g1), .val (.int g2), .val (.ref sC), .val (.ref sP), .unset, .unset, .unset]) (S' := [(.int (97 : Int32)), (.int (5 : Int32)), (.ref ad), (.ref ad), (.ref au), (.ref au)]) rfl ?_
        refine Run.cst hK Ad ⟨by decide, by decide⟩ gdz (by decide +kernel) (fun hd5 Wd5 Bd => ?_)
        replace Ad : Arv Z hd5 ad kd .char (40 : Int32) [(.int (105 : Int32)), (.int (116 : Int32)), (.int (115 : Int32)), (.int (32 : Int32)), (.int (109 : Int32)), (.int (97 : Int32)), (.int (0 : Int32)), (.int (0 : Int32)), (.int (0 : Int32)), (.int (0 : Int32)), (.int (0 : Int32)), (.int (0 : Int32)), (.int (0 : Int32)), (.int (0 : Int32)), (.int (0 : Int32)), (.int (0 : Int32)), (.int (0 : Int32)), (.int (0 : Int32)), (.int (0 : Int32)), (.int (0 : Int32)), (.int (0 : Int32)), (.int (0 : Int32)), (.int (0 : Int32)), (.int (0 : Int32)), (.int (0 : Int32)), (.int (0 : Int32)), (.int (0 : Int32)), (.int (0 : Int32)), (.int (0 : Int32)), (.int (0 : Int32)), (.int (0 : Int32)), (.int (0 : Int32)), (.int (0 : Int32)), (.int (0 : Int32)), (.int (0 : Int32)), (.int (0 : Int32)), (.int (0 : Int32)), (.int (0 : Int32)), (.int (0 : Int32)), (.int (0 : Int32))] (.int 0) := by exact Bd
        clear Bd
        replace Vu := Vu.other Wd5 (Or.inl nud)
        replace Cu := Cu.other Wd5 (Or.inl nud)
        replace Xu := Xu.wr Wd5
        replace T0 := ext_wr T0 Wd5 gd
        clear Wd5
        refine Run.pure hK (seg := [(996, .dup, 1), (997, .bipush 6, 2), (999, .bipush 112, 2)]) (by decide +kernel) (pc' := 1001) (L' := #[.val (.int i0), .val (.int i1), .val (.int i2), .val (.int a), .val (.int b), .val (.int x), .val (.int y), .val (.int g1), .val (.int g2), .val (.ref sC), .val (.ref sP), .unset, .unset, .unset]) (S' := [(.int (112 : Int32)), (.int (6 : Int32)), (.ref ad), (.ref ad), (.ref au), (.ref au)]) rfl ?_
        refine Run.cst hK Ad ⟨by decide, by decide⟩ gdz (by decide +kernel) (fun hd6 Wd6 Bd => ?_)
        replace Ad : Arv Z hd6 ad kd .char (40 : Int32) [(.int (105 : Int32)), (.int (116 : Int32)), (.int (115 : Int32)), (.int (32 : Int32)), (.int (109 : Int32)), (.int (97 : Int32)), (.int (112 : Int32)), (.int (0 : Int32)), (.int (0 : Int32)), (.int (0 : Int32)), (.int (0 : Int32)), (.int (0 : Int32)), (.int (0 : Int32)), (.int (0 : Int32)), (.int (0 : Int32)), (.int (0 : Int32)), (.int (0 : Int32)), (.int (0 : Int32)), (.int (0 : Int32)), (.int (0 : Int32)), (.int (0 : Int32)), (.int (0 : Int32)), (.int (0 : Int32)), (.int (0 : Int32)), (.int (0 : Int32)), (.int (0 : Int32)), (.int (0 : Int32)), (.int (0 : Int32)), (.int (0 : Int32)), (.int (0 : Int32)), (.int (0 : Int32)), (.int (0 : Int32)), (.int (0 : Int32)), (.int (0 : Int32)), (.int (0 : Int32)), (.int (0 : Int32)), (.int (0 : Int32)), (.int (0 : Int32)), (.int (0 : Int32)), (.int (0 : Int32))] (.int 0) := by exact Bd
        clear Bd
        replace Vu := Vu.other Wd6 (Or.inl nud)
        replace Cu := Cu.other Wd6 (Or.inl nud)
        replace Xu := Xu.wr Wd6
        replace T0 := ext_wr T0 Wd6 gd
        clear Wd6
        refine Run.pure hK (seg := [(1002, .dup, 1), (1003, .bipush 7, 2), (1005, .bipush 112, 2)]) (by decide +kernel) (pc' := 1007) (L' := #[.val (.int i0), .val (.int i1), .val (.int i2), .val (.int a), .val (.int b), .val (.int x), .val (.int y), .val (.int g1), .val (.int g2), .val (.ref sC), .val (.ref sP), .unset, .unset, .unset]) (S' := [(.int (112 : Int32)), (.int (7 : Int32)), (.ref ad), (.ref ad), (.ref au), (.ref au)]) rfl ?_
        refine Run.cst hK Ad ⟨by decide, by decide⟩ gdz (by decide +kernel) (fun hd7 Wd7 Bd => ?_)
        replace Ad : Arv Z hd7 ad kd .char (40 : Int32) [(.int (105 : Int32)), (.int (116 : Int32)), (.int (115 : Int32)), (.int (32 : Int32)), (.int (109 : Int32)), (.int (97 : Int32)), (.int (112 : Int32)), (.int (112 : Int32)), (.int (0 : Int32)), (.int (0 : Int32)), (.int (0 : Int32)), (.int (0 : Int32)), (.int (0 : Int32)), (.int (0 : Int32)), (.int (0 : Int32)), (.int (0 : Int32)), (.int (0 : Int32)), (.int (0 : Int32)), (.int (0 : Int32)), (.int (0 : Int32)), (.int (0 : Int32)), (.int (0 : Int32)), (.int (0 : Int32)), (.int (0 : Int32)), (.int (0 : Int32)), (.int (0 : Int32)), (.int (0 : Int32)), (.int (0 : Int32)), (.int (0 : Int32)), (.int (0 : Int32)), (.int (0 : Int32)), (.int (0 : Int32)), (.int (0 : Int32)), (.int (0 : Int32)), (.int (0 : Int32)), (.int (0 : Int32)), (.int (0 : Int32)), (.int (0 : Int32)), (.int (0 : Int32)), (.int (0 : Int32))] (.int 0) := by exact Bd
        clear Bd
        replace Vu := Vu.other Wd7 (Or.inl nud)
        replace Cu := Cu.other Wd7 (Or.inl nud)
        replace Xu := Xu.wr Wd7
        replace T0 := ext_wr T0 Wd7 gd
        clear Wd7
        refine Run.pure hK (seg := [(1008, .dup, 1), (1009, .bipush 8, 2), (1011, .bipush 101, 2)]) (by decide +kernel) (pc' := 1013) (L' := #[.val (.int i0), .val (.int i1), .val (.int i2), .val (.int a), .val (.int b), .val (.int x), .val (.int y), .val (.int g1), .val (.int g2), .val (.ref sC), .val (.ref sP), .unset, .unset, .unset]) (S' := [(.int (101 : Int32)), (.int (8 : Int32)), (.ref ad), (.ref ad), (.ref au), (.ref au)]) rfl ?_
        refine Run.cst hK Ad ⟨by decide, by decide⟩ gdz (by decide +kernel) (fun hd8 Wd8 Bd => ?_)
        replace Ad : Arv Z hd8 ad kd .char (40 : Int32) [(.int (105 : Int32)), (.int (116 : Int32)), (.int (115 : Int32)), (.int (32 : Int32)), (.int (109 : Int32)), (.int (97 : Int32)), (.int (112 : Int32)), (.int (112 : Int32)), (.int (101 : Int32)), (.int (0 : Int32)), (.int (0 : Int32)), (.int (0 : Int32)), (.int (0 : Int32)), (.int (0 : Int32)), (.int (0 : Int32)), (.int (0 : Int32)), (.int (0 : Int32)), (.int (0 : Int32)), (.int (0 : Int32)), (.int (0 : Int32)), (.int (0 : Int32)), (.int (0 : Int32)), (.int (0 : Int32)), (.int (0 : Int32)), (.int (0 : Int32)), (.int (0 : Int32)), (.int (0 : Int32)), (.int (0 : Int32)), (.int (0 : Int32)), (.int (0 : Int32)), (.int (0 : Int32)), (.int (0 : Int32)), (.int (0 : Int32)), (.int (0 : Int32)), (.int (0 : Int32)), (.int (0 : Int32)), (.int (0 : Int32)), (.int (0 : Int32)), (.int (0 : Int32)), (.int (0 : Int32))] (.int 0) := by exact Bd
        clear Bd
        replace Vu := Vu.other Wd8 (Or.inl nud)
        replace Cu := Cu.other Wd8 (Or.inl nud)
        replace Xu := Xu.wr Wd8
        replace T0 := ext_wr T0 Wd8 gd
        clear Wd8
        refine Run.pure hK (seg := [(1014, .dup, 1), (1015, .bipush 9, 2), (1017, .bipush 100, 2)]) (by decide +kernel) (pc' := 1019) (L' := #[.val (.int i0), .val (.int i1), .val (.int i2), .val (.int a), .val (.int b), .val (.int x), .val (.int y), .val (.int g1), .val (.int g2), .val (.ref sC), .val (.ref sP), .unset, .unset, .unset]) (S' := [(.int (100 : Int32)), (.int (9 : Int32)), (.ref ad), (.ref ad), (.ref au), (.ref au)]) rfl ?_
        refine Run.cst hK Ad ⟨by decide, by decide⟩ gdz (by decide +kernel) (fun hd9 Wd9 Bd => ?_)
        replace Ad : Arv Z hd9 ad kd .char (40 : Int32) [(.int (105 : Int32)), (.int (116 : Int32)), (.int (115 : Int32)), (.int (32 : Int32)), (.int (109 : Int32)), (.int (97 : Int32)), (.int (112 : Int32)), (.int (112 : Int32)), (.int (101 : Int32)), (.int (100 : Int32)), (.int (0 : Int32)), (.int (0 : Int32)), (.int (0 : Int32)), (.int (0 : Int32)), (.int (0 : Int32)), (.int (0 : Int32)), (.int (0 : Int32)), (.int (0 : Int32)), (.int (0 : Int32)), (.int (0 : Int32)), (.int (0 : Int32)), (.int (0 : Int32)), (.int (0 : Int32)), (.int (0 : Int32)), (.int (0 : Int32)), (.int (0 : Int32)), (.int (0 : Int32)), (.int (0 : Int32)), (.int (0 : Int32)), (.int (0 : Int32)), (.int (0 : Int32)), (.int (0 : Int32)), (.int (0 : Int32)), (.int (0 : Int32)), (.int (0 : Int32)), (.int (0 : Int32)), (.int (0 : Int32)), (.int (0 : Int32)), (.int (0 : Int32)), (.int (0 : Int32))] (.int 0) := by exact Bd
        clear Bd
        replace Vu := Vu.other Wd9 (Or.inl nud)
        replace Cu := Cu.other Wd9 (Or.inl nud)
        replace Xu := Xu.wr Wd9
        replace T0 := ext_wr T0 Wd9 gd
        clear Wd9
        refine Run.pure hK (seg := [(1020, .dup, 1), (1021, .bipush 10, 2), (1023, .bipush 32, 2)]) (by decide +kernel) (pc' := 1025) (L' := #[.val (.int i0), .val (.int i1), .val (.int i2), .val (.int a), .val (.int b), .val (.int x), .val (.int y), .val (.int g1), .val (.int g2), .val (.ref sC), .val (.ref sP), .unset, .unset, .unset]) (S' := [(.int (32 : Int32)), (.int (10 : Int32)), (.ref ad), (.ref ad), (.ref au), (.ref au)]) rfl ?_
        refine Run.cst hK Ad ⟨by decide, by decide⟩ gdz (by decide +kernel) (fun hd10 Wd10 Bd => ?_)
        replace Ad : Arv Z hd10 ad kd .char (40 : Int32) [(.int (105 : Int32)), (.int (116 : Int32)), (.int (115 : Int32)), (.int (32 : Int32)), (.int (109 : Int32)), (.int (97 : Int32)), (.int (112 : Int32)), (.int (112 : Int32)), (.int (101 : Int32)), (.int (100 : Int32)), (.int (32 : Int32)), (.int (0 : Int32)), (.int (0 : Int32)), (.int (0 : Int32)), (.int (0 : Int32)), (.int (0 : Int32)), (.int (0 : Int32)), (.int (0 : Int32)), (.int (0 : Int32)), (.int (0 : Int32)), (.int (0 : Int32)), (.int (0 : Int32)), (.int (0 : Int32)), (.int (0 : Int32)), (.int (0 : Int32)), (.int (0 : Int32)), (.int (0 : Int32)), (.int (0 : Int32)), (.int (0 : Int32)), (.int (0 : Int32)), (.int (0 : Int32)), (.int (0 : Int32)), (.int (0 : Int32)), (.int (0 : Int32)), (.int (0 : Int32)), (.int (0 : Int32)), (.int (0 : Int32)), (.int (0 : Int32)), (.int (0 : Int32)), (.int (0 : Int32))] (.int 0) := by exact Bd
        clear Bd
        replace Vu := Vu.other Wd10 (Or.inl nud)
        replace Cu := Cu.other Wd10 (Or.inl nud)
        replace Xu := Xu.wr Wd10
        replace T0 := ext_wr T0 Wd10 gd
        clear Wd10
        refine Run.pure hK (seg := [(1026, .dup, 1), (1027, .bipush 11, 2), (1029, .bipush 112, 2)]) (by decide +kernel) (pc' := 1031) (L' := #[.val (.int i0), .val (.int i1), .val (.int i2), .val (.int a), .val (.int b), .val (.int x), .val (.int y), .val (.int g1), .val (.int g2), .val (.ref sC), .val (.ref sP), .unset, .unset, .unset]) (S' := [(.int (112 : Int32)), (.int (11 : Int32)), (.ref ad), (.ref ad), (.ref au), (.ref au)]) rfl ?_
        refine Run.cst hK Ad ⟨by decide, by decide⟩ gdz (by decide +kernel) (fun hd11 Wd11 Bd => ?_)
        replace Ad : Arv Z hd11 ad kd .char (40 : Int32) [(.int (105 : Int32)), (.int (116 : Int32)), (.int (115 : Int32)), (.int (32 : Int32)), (.int (109 : Int32)), (.int (97 : Int32)), (.int (112 : Int32)), (.int (112 : Int32)), (.int (101 : Int32)), (.int (100 : Int32)), (.int (32 : Int32)), (.int (112 : Int32)), (.int (0 : Int32)), (.int (0 : Int32)), (.int (0 : Int32)), (.int (0 : Int32)), (.int (0 : Int32)), (.int (0 : Int32)), (.int (0 : Int32)), (.int (0 : Int32)), (.int (0 : Int32)), (.int (0 : Int32)), (.int (0 : Int32)), (.int (0 : Int32)), (.int (0 : Int32)), (.int (0 : Int32)), (.int (0 : Int32)), (.int (0 : Int32)), (.int (0 : Int32)), (.int (0 : Int32)), (.int (0 : Int32)), (.int (0 : Int32)), (.int (0 : Int32)), (.int (0 : Int32)), (.int (0 : Int32)), (.int (0 : Int32)), (.int (0 : Int32)), (.int (0 : Int32)), (.int (0 : Int32)), (.int (0 : Int32))] (.int 0) := by exact Bd
        clear Bd
        replace Vu := Vu.other Wd11 (Or.inl nud)
        replace Cu := Cu.other Wd11 (Or.inl nud)
        replace Xu := Xu.wr Wd11
        replace T0 := ext_wr T0 Wd11 gd
        clear Wd11
        refine Run.pure hK (seg := [(1032, .dup, 1), (1033, .bipush 12, 2), (1035, .bipush 97, 2)]) (by decide +kernel) (pc' := 1037) (L' := #[.val (.int i0), .val (.int i1), .val (.int i2), .val (.int a), .val (.int b), .val (.int x), .val (.int y), .val (.int g1), .val (.int g2), .val (.ref sC), .val (.ref sP), .unset, .unset, .unset]) (S' := [(.int (97 : Int32)), (.int (12 : Int32)), (.ref ad), (.ref ad), (.ref au), (.ref au)]) rfl ?_
        refine Run.cst hK Ad ⟨by decide, by decide⟩ gdz (by decide +kernel) (fun hd12 Wd12 Bd => ?_)
        replace Ad : Arv Z hd12 ad kd .char (40 : Int32) [(.int (105 : Int32)), (.int (116 : Int32)), (.int (115 : Int32)), (.int (32 : Int32)), (.int (109 : Int32)), (.int (97 : Int32)), (.int (112 : Int32)), (.int (112 : Int32)), (.int (101 : Int32)), (.int (100 : Int32)), (.int (32 : Int32)), (.int (112 : Int32)), (.int (97 : Int32)), (.int (0 : Int32)), (.int (0 : Int32)), (.int (0 : Int32)), (.int (0 : Int32)), (.int (0 : Int32)), (.int (0 : Int32)), (.int (0 : Int32)), (.int (0 : Int32)), (.int (0 : Int32)), (.int (0 : Int32)), (.int (0 : Int32)), (.int (0 : Int32)), (.int (0 : Int32)), (.int (0 : Int32)), (.int (0 : Int32)), (.int (0 : Int32)), (.int (0 : Int32)), (.int (0 : Int32)), (.int (0 : Int32)), (.int (0 : Int32)), (.int (0 : Int32)), (.int (0 : Int32)), (.int (0 : Int32)), (.int (0 : Int32)), (.int (0 : Int32)), (.int (0 : Int32)), (.int (0 : Int32))] (.int 0) := by exact Bd
        clear Bd
        replace Vu := Vu.other Wd12 (Or.inl nud)
        replace Cu := Cu.other Wd12 (Or.inl nud)
        replace Xu := Xu.wr Wd12
        replace T0 := ext_wr T0 Wd12 gd
        clear Wd12
        refine Run.pure hK (seg := [(1038, .dup, 1), (1039, .bipush 13, 2), (1041, .bipush 116, 2)]) (by decide +kernel) (pc' := 1043) (L' := #[.val (.int i0), .val (.int i1), .val (.int i2), .val (.int a), .val (.int b), .val (.int x), .val (.int y), .val (.int g1), .val (.int g2), .val (.ref sC), .val (.ref sP), .unset, .unset, .unset]) (S' := [(.int (116 : Int32)), (.int (13 : Int32)), (.ref ad), (.ref ad), (.ref au), (.ref au)]) rfl ?_
        refine Run.cst hK Ad ⟨by decide, by decide⟩ gdz (by decide +kernel) (fun hd13 Wd13 Bd => ?_)
        replace Ad : Arv Z hd13 ad kd .char (40 : Int32) [(.int (105 : Int32)), (.int (116 : Int32)), (.int (115 : Int32)), (.int (32 : Int32)), (.int (109 : Int32)), (.int (97 : Int32)), (.int (112 : Int32)), (.int (112 : Int32)), (.int (101 : Int32)), (.int (100 : Int32)), (.int (32 : Int32)), (.int (112 : Int32)), (.int (97 : Int32)), (.int (116 : Int32)), (.int (0 : Int32)), (.int (0 : Int32)), (.int (0 : Int32)), (.int (0 : Int32)), (.int (0 : Int32)), (.int (0 : Int32)), (.int (0 : Int32)), (.int (0 : Int32)), (.int (0 : Int32)), (.int (0 : Int32)), (.int (0 : Int32)), (.int (0 : Int32)), (.int (0 : Int32)), (.int (0 : Int32)), (.int (0 : Int32)), (.int (0 : Int32)), (.int (0 : Int32)), (.int (0 : Int32)), (.int (0 : Int32)), (.int (0 : Int32)), (.int (0 : Int32)), (.int (0 : Int32)), (.int (0 : Int32)), (.int (0 : Int32)), (.int (0 : Int32)), (.int (0 : Int32))] (.int 0) := by exact Bd
        clear Bd
        replace Vu := Vu.other Wd13 (Or.inl nud)
        replace Cu := Cu.other Wd13 (Or.inl nud)
        replace Xu := Xu.wr Wd13
        replace T0 := ext_wr T0 Wd13 gd
        clear Wd13
        refine Run.pure hK (seg := [(1044, .dup, 1), (1045, .bipush 14, 2), (1047, .bipush 104, 2)]) (by decide +kernel) (pc' := 1049) (L' := #[.val (.int i0), .val (.int i1), .val (.int i2), .val (.int a), .val (.int b), .val (.int x), .val (.int y), .val (.int g1), .val (.int g2), .val (.ref sC), .val (.ref sP), .unset, .unset, .unset]) (S' := [(.int (104 : Int32)), (.int (14 : Int32)), (.ref ad), (.ref ad), (.ref au), (.ref au)]) rfl ?_
        refine Run.cst hK Ad ⟨by decide, by decide⟩ gdz (by decide +kernel) (fun hd14 Wd14 Bd => ?_)
        replace Ad : Arv Z hd14 ad kd .char (40 : Int32) [(.int (105 : Int32)), (.int (116 : Int32)), (.int (115 : Int32)), (.int (32 : Int32)), (.int (109 : Int32)), (.int (97 : Int32)), (.int (112 : Int32)), (.int (112 : Int32)), (.int (101 : Int32)), (.int (100 : Int32)), (.int (32 : Int32)), (.int (112 : Int32)), (.int (97 : Int32)), (.int (116 : Int32)), (.int (104 : Int32)), (.int (0 : Int32)), (.int (0 : Int32)), (.int (0 : Int32)), (.int (0 : Int32)), (.int (0 : Int32)), (.int (0 : Int32)), (.int (0 : Int32)), (.int (0 : Int32)), (.int (0 : Int32)), (.int (0 : Int32)), (.int (0 : Int32)), (.int (0 : Int32)), (.int (0 : Int32)), (.int (0 : Int32)), (.int (0 : Int32)), (.int (0 : Int32)), (.int (0 : Int32)), (.int (0 : Int32)), (.int (0 : Int32)), (.int (0 : Int32)), (.int (0 : Int32)), (.int (0 : Int32)), (.int (0 : Int32)), (.int (0 : Int32)), (.int (0 : Int32))] (.int 0) := by exact Bd
        clear Bd
        replace Vu := Vu.other Wd14 (Or.inl nud)
        replace Cu := Cu.other Wd14 (Or.inl nud)
        replace Xu := Xu.wr Wd14
        replace T0 := ext_wr T0 Wd14 gd
        clear Wd14
        refine Run.pure hK (seg := [(1050, .dup, 1), (1051, .bipush 15, 2), (1053, .bipush 32, 2)]) (by decide +kernel) (pc' := 1055) (L' := #[.val (.int i0), .val (.int i1), .val (.int i2), .val (.int a), .val (.int b), .val (.int x), .val (.int y), .val (.int g1), .val (.int g2), .val (.ref sC), .val (.ref sP), .unset, .unset, .unset]) (S' := [(.int (32 : Int32)), (.int (15 : Int32)), (.ref ad), (.ref ad), (.ref au), (.ref au)]) rfl ?_
        refine Run.cst hK Ad ⟨by decide, by decide⟩ gdz (by decide +kernel) (fun hd15 Wd15 Bd => ?_)
        replace Ad : Arv Z hd15 ad kd .char (40 : Int32) [(.int (105 : Int32)), (.int (116 : Int32)), (.int (115 : Int32)), (.int (32 : Int32)), (.int (109 : Int32)), (.int (97 : Int32)), (.int (112 : Int32)), (.int (112 : Int32)), (.int (101 : Int32)), (.int (100 : Int32)), (.int (32 : Int32)), (.int (112 : Int32)), (.int (97 : Int32)), (.int (116 : Int32)), (.int (104 : Int32)), (.int (32 : Int32)), (.int (0 : Int32)), (.int (0 : Int32)), (.int (0 : Int32)), (.int (0 : Int32)), (.int (0 : Int32)), (.int (0 : Int32)), (.int (0 : Int32)), (.int (0 : Int32)), (.int (0 : Int32)), (.int (0 : Int32)), (.int (0 : Int32)), (.int (0 : Int32)), (.int (0 : Int32)), (.int (0 : Int32)), (.int (0 : Int32)), (.int (0 : Int32)), (.int (0 : Int32)), (.int (0 : Int32)), (.int (0 : Int32)), (.int (0 : Int32)), (.int (0 : Int32)), (.int (0 : Int32)), (.int (0 : Int32)), (.int (0 : Int32))] (.int 0) := by exact Bd
        clear Bd
        replace Vu := Vu.other Wd15 (Or.inl nud)
        replace Cu := Cu.other Wd15 (Or.inl nud)
        replace Xu := Xu.wr Wd15
        replace T0 := ext_wr T0 Wd15 gd
        clear Wd15
        refine Run.pure hK (seg := [(1056, .dup, 1), (1057, .bipush 16, 2), (1059, .bipush 34, 2)]) (by decide +kernel) (pc' := 1061) (L' := #[.val (.int i0), .val (.int i1), .val (.int i2), .val (.int a), .val (.int b), .val (.int x), .val (.int y), .val (.int g1), .val (.int g2), .val (.ref sC), .val (.ref sP), .unset, .unset, .unset]) (S' := [(.int (34 : Int32)), (.int (16 : Int32)), (.ref ad), (.ref ad), (.ref au), (.ref au)]) rfl ?_
        refine Run.cst hK Ad ⟨by decide, by decide⟩ gdz (by decide +kernel) (fun hd16 Wd16 Bd => ?_)
        replace Ad : Arv Z hd16 ad kd .char (40 : Int32) [(.int (105 : Int32)), (.int (116 : Int32)), (.int (115 : Int32)), (.int (32 : Int32)), (.int (109 : Int32)), (.int (97 : Int32)), (.int (112 : Int32)), (.int (112 : Int32)), (.int (101 : Int32)), (.int (100 : Int32)), (.int (32 : Int32)), (.int (112 : Int32)), (.int (97 : Int32)), (.int (116 : Int32)), (.int (104 : Int32)), (.int (32 : Int32)), (.int (34 : Int32)), (.int (0 : Int32)), (.int (0 : Int32)), (.int (0 : Int32)), (.int (0 : Int32)), (.int (0 : Int32)), (.int (0 : Int32)), (.int (0 : Int32)), (.int (0 : Int32)), (.int (0 : Int32)), (.int (0 : Int32)), (.int (0 : Int32)), (.int (0 : Int32)), (.int (0 : Int32)), (.int (0 : Int32)), (.int (0 : Int32)), (.int (0 : Int32)), (.int (0 : Int32)), (.int (0 : Int32)), (.int (0 : Int32)), (.int (0 : Int32)), (.int (0 : Int32)), (.int (0 : Int32)), (.int (0 : Int32))] (.int 0) := by exact Bd
        clear Bd
        replace Vu := Vu.other Wd16 (Or.inl nud)
        replace Cu := Cu.other Wd16 (Or.inl nud)
        replace Xu := Xu.wr Wd16
        replace T0 := ext_wr T0 Wd16 gd
        clear Wd16
        refine Run.pure hK (seg := [(1062, .dup, 1), (1063, .bipush 17, 2), (1065, .bipush 34, 2)]) (by decide +kernel) (pc' := 1067) (L' := #[.val (.int i0), .val (.int i1), .val (.int i2), .val (.int a), .val (.int b), .val (.int x), .val (.int y), .val (.int g1), .val (.int g2), .val (.ref sC), .val (.ref sP), .unset, .unset, .unset]) (S' := [(.int (34 : Int32)), (.int (17 : Int32)), (.ref ad), (.ref ad), (.ref au), (.ref au)]) rfl ?_
        refine Run.cst hK Ad ⟨by decide, by decide⟩ gdz (by decide +kernel) (fun hd17 Wd17 Bd => ?_)
        replace Ad : Arv Z hd17 ad kd .char (40 : Int32) [(.int (105 : Int32)), (.int (116 : Int32)), (.int (115 : Int32)), (.int (32 : Int32)), (.int (109 : Int32)), (.int (97 : Int32)), (.int (112 : Int32)), (.int (112 : Int32)), (.int (101 : Int32)), (.int (100 : Int32)), (.int (32 : Int32)), (.int (112 : Int32)), (.int (97 : Int32)), (.int (116 : Int32)), (.int (104 : Int32)), (.int (32 : Int32)), (.int (34 : Int32)), (.int (34 : Int32)), (.int (0 : Int32)), (.int (0 : Int32)), (.int (0 : Int32)), (.int (0 : Int32)), (.int (0 : Int32)), (.int (0 : Int32)), (.int (0 : Int32)), (.int (0 : Int32)), (.int (0 : Int32)), (.int (0 : Int32)), (.int (0 : Int32)), (.int (0 : Int32)), (.int (0 : Int32)), (.int (0 : Int32)), (.int (0 : Int32)), (.int (0 : Int32)), (.int (0 : Int32)), (.int (0 : Int32)), (.int (0 : Int32)), (.int (0 : Int32)), (.int (0 : Int32)), (.int (0 : Int32))] (.int 0) := by exact Bd
        clear Bd
        replace Vu := Vu.other Wd17 (Or.inl nud)
        replace Cu := Cu.other Wd17 (Or.inl nud)
        replace Xu := Xu.wr Wd17
        replace T0 := ext_wr T0 Wd17 gd
        clear Wd17
        refine Run.pure hK (seg := [(1068, .dup, 1), (1069, .bipush 18, 2), (1071, .bipush 32, 2)]) (by decide +kernel) (pc' := 1073) (L' := #[.val (.int i0), .val (.int i1), .val (.int i2), .val (.int a), .val (.int b), .val (.int x), .val (.int y), .val (.int g1), .val (.int g2), .val (.ref sC), .val (.ref sP), .unset, .unset, .unset]) (S' := [(.int (32 : Int32)), (.int (18 : Int32)), (.ref ad), (.ref ad), (.ref au), (.ref au)]) rfl ?_
        refine Run.cst hK Ad ⟨by decide, by decide⟩ gdz (by decide +kernel) (fun hd18 Wd18 Bd => ?_)
        replace Ad : Arv Z hd18 ad kd .char (40 : Int32) [(.int (105 : Int32)), (.int (116 : Int32)), (.int (115 : Int32)), (.int (32 : Int32)), (.int (109 : Int32)), (.int (97 : Int32)), (.int (112 : Int32)), (.int (112 : Int32)), (.int (101 : Int32)), (.int (100 : Int32)), (.int (32 : Int32)), (.int (112 : Int32)), (.int (97 : Int32)), (.int (116 : Int32)), (.int (104 : Int32)), (.int (32 : Int32)), (.int (34 : Int32)), (.int (34 : Int32)), (.int (32 : Int32)), (.int (0 : Int32)), (.int (0 : Int32)), (.int (0 : Int32)), (.int (0 : Int32)), (.int (0 : Int32)), (.int (0 : Int32)), (.int (0 : Int32)), (.int (0 : Int32)), (.int (0 : Int32)), (.int (0 : Int32)), (.int (0 : Int32)), (.int (0 : Int32)), (.int (0 : Int32)), (.int (0 : Int32)), (.int (0 : Int32)), (.int (0 : Int32)), (.int (0 : Int32)), (.int (0 : Int32)), (.int (0 : Int32)), (.int (0 : Int32)), (.int (0 : Int32))] (.int 0) := by exact Bd
        clear Bd
        replace Vu := Vu.other Wd18 (Or.inl nud)
        replace Cu := Cu.other Wd18 (Or.inl nud)
        replace Xu := Xu.wr Wd18
        replace T0 := ext_wr T0 Wd18 gd
        clear Wd18
        refine Run.pure hK (seg := [(1074, .dup, 1), (1075, .bipush 19, 2), (1077, .bipush 100, 2)]) (by decide +kernel) (pc' := 1079) (L' := #[.val (.int i0), .val (.int i1), .val (.int i2), .val (.int a), .val (.int b), .val (.int x), .val (.int y), .val (.int g1), .val (.int g2), .val (.ref sC), .val (.ref sP), .unset, .unset, .unset]) (S' := [(.int (100 : Int32)), (.int (19 : Int32)), (.ref ad), (.ref ad), (.ref au), (.ref au)]) rfl ?_
        refine Run.cst hK Ad ⟨by decide, by decide⟩ gdz (by decide +kernel) (fun hd19 Wd19 Bd => ?_)
        replace Ad : Arv Z hd19 ad kd .char (40 : Int32) [(.int (105 : Int32)), (.int (116 : Int32)), (.int (115 : Int32)), (.int (32 : Int32)), (.int (109 : Int32)), (.int (97 : Int32)), (.int (112 : Int32)), (.int (112 : Int32)), (.int (101 : Int32)), (.int (100 : Int32)), (.int (32 : Int32)), (.int (112 : Int32)), (.int (97 : Int32)), (.int (116 : Int32)), (.int (104 : Int32)), (.int (32 : Int32)), (.int (34 : Int32)), (.int (34 : Int32)), (.int (32 : Int32)), (.int (100 : Int32)), (.int (0 : Int32)), (.int (0 : Int32)), (.int (0 : Int32)), (.int (0 : Int32)), (.int (0 : Int32)), (.int (0 : Int32)), (.int (0 : Int32)), (.int (0 : Int32)), (.int (0 : Int32)), (.int (0 : Int32)), (.int (0 : Int32)), (.int (0 : Int32)), (.int (0 : Int32)), (.int (0 : Int32)), (.int (0 : Int32)), (.int (0 : Int32)), (.int (0 : Int32)), (.int (0 : Int32)), (.int (0 : Int32)), (.int (0 : Int32))] (.int 0) := by exact Bd
        clear Bd
        replace Vu := Vu.other Wd19 (Or.inl nud)
        replace Cu := Cu.other Wd19 (Or.inl nud)
        replace Xu := Xu.wr Wd19
        replace T0 := ext_wr T0 Wd19 gd
        clear Wd19
        refine Run.pure hK (seg := [(1080, .dup, 1), (1081, .bipush 20, 2), (1083, .bipush 111, 2)]) (by decide +kernel) (pc' := 1085) (L' := #[.val (.int i0), .val (.int i1), .val (.int i2), .val (.int a), .val (.int b), .val (.int x), .val (.int y), .val (.int g1), .val (.int g2), .val (.ref sC), .val (.ref sP), .unset, .unset, .unset]) (S' := [(.int (111 : Int32)), (.int (20 : Int32)), (.ref ad), (.ref ad), (.ref au), (.ref au)]) rfl ?_
        refine Run.cst hK Ad ⟨by decide, by decide⟩ gdz (by decide +kernel) (fun hd20 Wd20 Bd => ?_)
        replace Ad : Arv Z hd20 ad kd .char (40 : Int32) [(.int (105 : Int32)), (.int (116 : Int32)), (.int (115 : Int32)), (.int (32 : Int32)), (.int (109 : Int32)), (.int (97 : Int32)), (.int (112 : Int32)), (.int (112 : Int32)), (.int (101 : Int32)), (.int (100 : Int32)), (.int (32 : Int32)), (.int (112 : Int32)), (.int (97 : Int32)), (.int (116 : Int32)), (.int (104 : Int32)), (.int (32 : Int32)), (.int (34 : Int32)), (.int (34 : Int32)), (.int (32 : Int32)), (.int (100 : Int32)), (.int (111 : Int32)), (.int (0 : Int32)), (.int (0 : Int32)), (.int (0 : Int32)), (.int (0 : Int32)), (.int (0 : Int32)), (.int (0 : Int32)), (.int (0 : Int32)), (.int (0 : Int32)), (.int (0 : Int32)), (.int (0 : Int32)), (.int (0 : Int32)), (.int (0 : Int32)), (.int (0 : Int32)), (.int (0 : Int32)), (.int (0 : Int32)), (.int (0 : Int32)), (.int (0 : Int32)), (.int (0 : Int32)), (.int (0 : Int32))] (.int 0) := by exact Bd
        clear Bd
        replace Vu := Vu.other Wd20 (Or.inl nud)
        replace Cu := Cu.other Wd20 (Or.inl nud)
        replace Xu := Xu.wr Wd20
        replace T0 := ext_wr T0 Wd20 gd
        clear Wd20
        refine Run.pure hK (seg := [(1086, .dup, 1), (1087, .bipush 21, 2), (1089, .bipush 101, 2)]) (by decide +kernel) (pc' := 1091) (L' := #[.val (.int i0), .val (.int i1), .val (.int i2), .val (.int a), .val (.int b), .val (.int x), .val (.int y), .val (.int g1), .val (.int g2), .val (.ref sC), .val (.ref sP), .unset, .unset, .unset]) (S' := [(.int (101 : Int32)), (.int (21 : Int32)), (.ref ad), (.ref ad), (.ref au), (.ref au)]) rfl ?_
        refine Run.cst hK Ad ⟨by decide, by decide⟩ gdz (by decide +kernel) (fun hd21 Wd21 Bd => ?_)
        replace Ad : Arv Z hd21 ad kd .char (40 : Int32) [(.int (105 : Int32)), (.int (116 : Int32)), (.int (115 : Int32)), (.int (32 : Int32)), (.int (109 : Int32)), (.int (97 : Int32)), (.int (112 : Int32)), (.int (112 : Int32)), (.int (101 : Int32)), (.int (100 : Int32)), (.int (32 : Int32)), (.int (112 : Int32)), (.int (97 : Int32)), (.int (116 : Int32)), (.int (104 : Int32)), (.int (32 : Int32)), (.int (34 : Int32)), (.int (34 : Int32)), (.int (32 : Int32)), (.int (100 : Int32)), (.int (111 : Int32)), (.int (101 : Int32)), (.int (0 : Int32)), (.int (0 : Int32)), (.int (0 : Int32)), (.int (0 : Int32)), (.int (0 : Int32)), (.int (0 : Int32)), (.int (0 : Int32)), (.int (0 : Int32)), (.int (0 : Int32)), (.int (0 : Int32)), (.int (0 : Int32)), (.int (0 : Int32)), (.int (0 : Int32)), (.int (0 : Int32)), (.int (0 : Int32)), (.int (0 : Int32)), (.int (0 : Int32)), (.int (0 : Int32))] (.int 0) := by exact Bd
        clear Bd
        replace Vu := Vu.other Wd21 (Or.inl nud)
        replace Cu := Cu.other Wd21 (Or.inl nud)
        replace Xu := Xu.wr Wd21
        replace T0 := ext_wr T0 Wd21 gd
        clear Wd21
        refine Run.pure hK (seg := [(1092, .dup, 1), (1093, .bipush 22, 2), (1095, .bipush 115, 2)]) (by decide +kernel) (pc' := 1097) (L' := #[.val (.int i0), .val (.int i1), .val (.int i2), .val (.int a), .val (.int b), .val (.int x), .val (.int y), .val (.int g1), .val (.int g2), .val (.ref sC), .val (.ref sP), .unset, .unset, .unset]) (S' := [(.int (115 : Int32)), (.int (22 : Int32)), (.ref ad), (.ref ad), (.ref au), (.ref au)]) rfl ?_
        refine Run.cst hK Ad ⟨by decide, by decide⟩ gdz (by decide +kernel) (fun hd22 Wd22 Bd => ?_)
        replace Ad : Arv Z hd22 ad kd .char (40 : Int32) [(.int (105 : Int32)), (.int (116 : Int32)), (.int (115 : Int32)), (.int (32 : Int32)), (.int (109 : Int32)), (.int (97 : Int32)), (.int (112 : Int32)), (.int (112 : Int32)), (.int (101 : Int32)), (.int (100 : Int32)), (.int (32 : Int32)), (.int (112 : Int32)), (.int (97 : Int32)), (.int (116 : Int32)), (.int (104 : Int32)), (.int (32 : Int32)), (.int (34 : Int32)), (.int (34 : Int32)), (.int (32 : Int32)), (.int (100 : Int32)), (.int (111 : Int32)), (.int (101 : Int32)), (.int (115 : Int32)), (.int (0 : Int32)), (.int (0 : Int32)), (.int (0 : Int32)), (.int (0 : Int32)), (.int (0 : Int32)), (.int (0 : Int32)), (.int (0 : Int32)), (.int (0 : Int32)), (.int (0 : Int32)), (.int (0 : Int32)), (.int (0 : Int32)), (.int (0 : Int32)), (.int (0 : Int32)), (.int (0 : Int32)), (.int (0 : Int32)), (.int (0 : Int32)), (.int (0 : Int32))] (.int 0) := by exact Bd
        clear Bd
        replace Vu := Vu.other Wd22 (Or.inl nud)
        replace Cu := Cu.other Wd22 (Or.inl nud)
        replace Xu := Xu.wr Wd22
        replace T0 := ext_wr T0 Wd22 gd
        clear Wd22
        refine Run.pure hK (seg := [(1098, .dup, 1), (1099, .bipush 23, 2), (1101, .bipush 32, 2)]) (by decide +kernel) (pc' := 1103) (L' := #[.val (.int i0), .val (.int i1), .val (.int i2), .val (.int a), .val (.int b), .val (.int x), .val (.int y), .val (.int g1), .val (.int g2), .val (.ref sC), .val (.ref sP), .unset, .unset, .unset]) (S' := [(.int (32 : Int32)), (.int (23 : Int32)), (.ref ad), (.ref ad), (.ref au), (.ref au)]) rfl ?_
        refine Run.cst hK Ad ⟨by decide, by decide⟩ gdz (by decide +kernel) (fun hd23 Wd23 Bd => ?_)
        replace Ad : Arv Z hd23 ad kd .char (40 : Int32) [(.int (105 : Int32)), (.int (116 : Int32)), (.int (115 : Int32)), (.int (32 : Int32)), (.int (109 : Int32)), (.int (97 : Int32)), (.int (112 : Int32)), (.int (112 : Int32)), (.int (101 : Int32)), (.int (100 : Int32)), (.int (32 : Int32)), (.int (112 : Int32)), (.int (97 : Int32)), (.int (116 : Int32)), (.int (104 : Int32)), (.int (32 : Int32)), (.int (34 : Int32)), (.int (34 : Int32)), (.int (32 : Int32)), (.int (100 : Int32)), (.int (111 : Int32)), (.int (101 : Int32)), (.int (115 : Int32)), (.int (32 : Int32)), (.int (0 : Int32)), (.int (0 : Int32)), (.int (0 : Int32)), (.int (0 : Int32)), (.int (0 : Int32)), (.int (0 : Int32)), (.int (0 : Int32)), (.int (0 : Int32)), (.int (0 : Int32)), (.int (0 : Int32)), (.int (0 : Int32)), (.int (0 : Int32)), (.int (0 : Int32)), (.int (0 : Int32)), (.int (0 : Int32)), (.int (0 : Int32))] (.int 0) := by exact Bd
        clear Bd
        replace Vu := Vu.other Wd23 (Or.inl nud)
        replace Cu := Cu.other Wd23 (Or.inl nud)
        replace Xu := Xu.wr Wd23
        replace T0 := ext_wr T0 Wd23 gd
        clear Wd23
        refine Run.pure hK (seg := [(1104, .dup, 1), (1105, .bipush 24, 2), (1107, .bipush 110, 2)]) (by decide +kernel) (pc' := 1109) (L' := #[.val (.int i0), .val (.int i1), .val (.int i2), .val (.int a), .val (.int b), .val (.int x), .val (.int y), .val (.int g1), .val (.int g2), .val (.ref sC), .val (.ref sP), .unset, .unset, .unset]) (S' := [(.int (110 : Int32)), (.int (24 : Int32)), (.ref ad), (.ref ad), (.ref au), (.ref au)]) rfl ?_
        refine Run.cst hK Ad ⟨by decide, by decide⟩ gdz (by decide +kernel) (fun hd24 Wd24 Bd => ?_)
        replace Ad : Arv Z hd24 ad kd .char (40 : Int32) [(.int (105 : Int32)), (.int (116 : Int32)), (.int (115 : Int32)), (.int (32 : Int32)), (.int (109 : Int32)), (.int (97 : Int32)), (.int (112 : Int32)), (.int (112 : Int32)), (.int (101 : Int32)), (.int (100 : Int32)), (.int (32 : Int32)), (.int (112 : Int32)), (.int (97 : Int32)), (.int (116 : Int32)), (.int (104 : Int32)), (.int (32 : Int32)), (.int (34 : Int32)), (.int (34 : Int32)), (.int (32 : Int32)), (.int (100 : Int32)), (.int (111 : Int32)), (.int (101 : Int32)), (.int (115 : Int32)), (.int (32 : Int32)), (.int (110 : Int32)), (.int (0 : Int32)), (.int (0 : Int32)), (.int (0 : Int32)), (.int (0 : Int32)), (.int (0 : Int32)), (.int (0 : Int32)), (.int (0 : Int32)), (.int (0 : Int32)), (.int (0 : Int32)), (.int (0 : Int32)), (.int (0 : Int32)), (.int (0 : Int32)), (.int (0 : Int32)), (.int (0 : Int32)), (.int (0 : Int32))] (.int 0) := by exact Bd
        clear Bd
        replace Vu := Vu.other Wd24 (Or.inl nud)
        replace Cu := Cu.other Wd24 (Or.inl nud)
        replace Xu := Xu.wr Wd24
        replace T0 := ext_wr T0 Wd24 gd
        clear Wd24
        refine Run.pure hK (seg := [(1110, .dup, 1), (1111, .bipush 25, 2), (1113, .bipush 111, 2)]) (by decide +kernel) (pc' := 1115) (L' := #[.val (.int i0), .val (.int i1), .val (.int i2), .val (.int a), .val (.int b), .val (.int x), .val (.int y), .val (.int g1), .val (.int g2), .val (.ref sC), .val (.ref sP), .unset, .unset, .unset]) (S' := [(.int (111 : Int32)), (.int (25 : Int32)), (.ref ad), (.ref ad), (.ref au), (.ref au)]) rfl ?_
        refine Run.cst hK Ad ⟨by decide, by decide⟩ gdz (by decide +kernel) (fun hd25 Wd25 Bd => ?_)
        replace Ad : Arv Z hd25 ad kd .char (40 : Int32) [(.int (105 : Int32)), (.int (116 : Int32)), (.int (115 : Int32)), (.int (32 : Int32)), (.int (109 : Int32)), (.int (97 : Int32)), (.int (112 : Int32)), (.int (112 : Int32)), (.int (101 : Int32)), (.int (100 : Int32)), (.int (32 : Int32)), (.int (112 : Int32)), (.int (97 : Int32)), (.int (116 : Int32)), (.int (104 : Int32)), (.int (32 : Int32)), (.int (34 : Int32)), (.int (34 : Int32)), (.int (32 : Int32)), (.int (100 : Int32)), (.int (111 : Int32)), (.int (101 : Int32)), (.int (115 : Int32)), (.int (32 : Int32)), (.int (110 : Int32)), (.int (111 : Int32)), (.int (0 : Int32)), (.int (0 : Int32)), (.int (0 : Int32)), (.int (0 : Int32)), (.int (0 : Int32)), (.int (0 : Int32)), (.int (0 : Int32)), (.int (0 : Int32)), (.int (0 : Int32)), (.int (0 : Int32)), (.int (0 : Int32)), (.int (0 : Int32)), (.int (0 : Int32)), (.int (0 : Int32))] (.int 0) := by exact Bd
        clear Bd
        replace Vu := Vu.other Wd25 (Or.inl nud)
        replace Cu := Cu.other Wd25 (Or.inl nud)
        replace Xu := Xu.wr Wd25
        replace T0 := ext_wr T0 Wd25 gd
        clear Wd25
        refine Run.pure hK (seg := [(1116, .dup, 1), (1117, .bipush 26, 2), (1119, .bipush 116, 2)]) (by decide +kernel) (pc' := 1121) (L' := #[.val (.int i0), .val (.int i1), .val (.int i2), .val (.int a), .val (.int b), .val (.int x), .val (.int y), .val (.int g1), .val (.int g2), .val (.ref sC), .val (.ref sP), .unset, .unset, .unset]) (S' := [(.int (116 : Int32)), (.int (26 : Int32)), (.ref ad), (.ref ad), (.ref au), (.ref au)]) rfl ?_
        refine Run.cst hK Ad ⟨by decide, by decide⟩ gdz (by decide +kernel) (fun hd26 Wd26 Bd => ?_)
        replace Ad : Arv Z hd26 ad kd .char (40 : Int32) [(.int (105 : Int32)), (.int (116 : Int32)), (.int (115 : Int32)), (.int (32 : Int32)), (.int (109 : Int32)), (.int (97 : Int32)), (.int (112 : Int32)), (.int (112 : Int32)), (.int (101 : Int32)), (.int (100 : Int32)), (.int (32 : Int32)), (.int (112 : Int32)), (.int (97 : Int32)), (.int (116 : Int32)), (.int (104 : Int32)), (.int (32 : Int32)), (.int (34 : Int32)), (.int (34 : Int32)), (.int (32 : Int32)), (.int (100 : Int32)), (.int (111 : Int32)), (.int (101 : Int32)), (.int (115 : Int32)), (.int (32 : Int32)), (.int (110 : Int32)), (.int (111 : Int32)), (.int (116 : Int32)), (.int (0 : Int32)), (.int (0 : Int32)), (.int (0 : Int32)), (.int (0 : Int32)), (.int (0 : Int32)), (.int (0 : Int32)), (.int (0 : Int32)), (.int (0 : Int32)), (.int (0 : Int32)), (.int (0 : Int32)), (.int (0 : Int32)), (.int (0 : Int32)), (.int (0 : Int32))] (.int 0) := by exact Bd
        clear Bd
        replace Vu := Vu.other Wd26 (Or.inl nud)
        replace Cu := Cu.other Wd26 (Or.inl nud)
        replace Xu := Xu.wr Wd26
        replace T0 := ext_wr T0 Wd26 gd
        clear Wd26
        refine Run.pure hK (seg := [(1122, .dup, 1), (1123, .bipush 27, 2), (1125, .bipush 32, 2)]) (by decide +kernel) (pc' := 1127) (L' := #[.val (.int i0), .val (.int i1), .val (.int i2), .val (.int a), .val (.int b), .val (.int x), .val (.int y), .val (.int g1), .val (.int g2), .val (.ref sC), .val (.ref sP), .unset, .unset, .unset]) (S' := [(.int (32 : Int32)), (.int (27 : Int32)), (.ref ad), (.ref ad), (.ref au), (.ref au)]) rfl ?_
        refine Run.cst hK Ad ⟨by decide, by decide⟩ gdz (by decide +kernel) (fun hd27 Wd27 Bd => ?_)
        replace Ad : Arv Z hd27 ad kd .char (40 : Int32) [(.int (105 : Int32)), (.int (116 : Int32)), (.int (115 : Int32)), (.int (32 : Int32)), (.int (109 : Int32)), (.int (97 : Int32)), (.int (112 : Int32)), (.int (112 : Int32)), (.int (101 : Int32)), (.int (100 : Int32)), (.int (32 : Int32)), (.int (112 : Int32)), (.int (97 : Int32)), (.int (116 : Int32)), (.int (104 : Int32)), (.int (32 : Int32)), (.int (34 : Int32)), (.int (34 : Int32)), (.int (32 : Int32)), (.int (100 : Int32)), (.int (111 : Int32)), (.int (101 : Int32)), (.int (115 : Int32)), (.int (32 : Int32)), (.int (110 : Int32)), (.int (111 : Int32)), (.int (116 : Int32)), (.int (32 : Int32)), (.int (0 : Int32)), (.int (0 : Int32)), (.int (0 : Int32)), (.int (0 : Int32)), (.int (0 : Int32)), (.int (0 : Int32)), (.int (0 : Int32)), (.int (0 : Int32)), (.int (0 : Int32)), (.int (0 : Int32)), (.int (0 : Int32)), (.int (0 : Int32))] (.int 0) := by exact Bd
        clear Bd
        replace Vu := Vu.other Wd27 (Or.inl nud)
        replace Cu := Cu.other Wd27 (Or.inl nud)
        replace Xu := Xu.wr Wd27
        replace T0 := ext_wr T0 Wd27 gd
        clear Wd27
        refine Run.pure hK (seg := [(1128, .dup, 1), (1129, .bipush 28, 2), (1131, .bipush 115, 2)]) (by decide +kernel) (pc' := 1133) (L' := #[.val (.int i0), .val (.int i1), .val (.int i2), .val (.int a), .val (.int b), .val (.int x), .val (.int y), .val (.int g1), .val (.int g2), .val (.ref sC), .val (.ref sP), .unset, .unset, .unset]) (S' := [(.int (115 : Int32)), (.int (28 : Int32)), (.ref ad), (.ref ad), (.ref au), (.ref au)]) rfl ?_
        refine Run.cst hK Ad ⟨by decide, by decide⟩ gdz (by decide +kernel) (fun hd28 Wd28 Bd => ?_)
        replace Ad : Arv Z hd28 ad kd .char (40 : Int32) [(.int (105 : Int32)), (.int (116 : Int32)), (.int (115 : Int32)), (.int (32 : Int32)), (.int (109 : Int32)), (.int (97 : Int32)), (.int (112 : Int32)), (.int (112 : Int32)), (.int (101 : Int32)), (.int (100 : Int32)), (.int (32 : Int32)), (.int (112 : Int32)), (.int (97 : Int32)), (.int (116 : Int32)), (.int (104 : Int32)), (.int (32 : Int32)), (.int (34 : Int32)), (.int (34 : Int32)), (.int (32 : Int32)), (.int (100 : Int32)), (.int (111 : Int32)), (.int (101 : Int32)), (.int (115 : Int32)), (.int (32 : Int32)), (.int (110 : Int32)), (.int (111 : Int32)), (.int (116 : Int32)), (.int (32 : Int32)), (.int (115 : Int32)), (.int (0 : Int32)), (.int (0 : Int32)), (.int (0 : Int32)), (.int (0 : Int32)), (.int (0 : Int32)), (.int (0 : Int32)), (.int (0 : Int32)), (.int (0 : Int32)), (.int (0 : Int32)), (.int (0 : Int32)), (.int (0 : Int32))] (.int 0) := by exact Bd
        clear Bd
        replace Vu := Vu.other Wd28 (Or.inl nud)
        replace Cu := Cu.other Wd28 (Or.inl nud)
        replace Xu := Xu.wr Wd28
        replace T0 := ext_wr T0 Wd28 gd
        clear Wd28
        refine Run.pure hK (seg := [(1134, .dup, 1), (1135, .bipush 29, 2), (1137, .bipush 116, 2)]) (by decide +kernel) (pc' := 1139) (L' := #[.val (.int i0), .val (.int i1), .val (.int i2), .val (.int a), .val (.int b), .val (.int x), .val (.int y), .val (.int g1), .val (.int g2), .val (.ref sC), .val (.ref sP), .unset, .unset, .unset]) (S' := [(.int (116 : Int32)), (.int (29 : Int32)), (.ref ad), (.ref ad), (.ref au), (.ref au)]) rfl ?_
        refine Run.cst hK Ad ⟨by decide, by decide⟩ gdz (by decide +kernel) (fun hd29 Wd29 Bd => ?_)
        replace Ad : Arv Z hd29 ad kd .char (40 : Int32) [(.int (105 : Int32)), (.int (116 : Int32)), (.int (115 : Int32)), (.int (32 : Int32)), (.int (109 : Int32)), (.int (97 : Int32)), (.int (112 : Int32)), (.int (112 : Int32)), (.int (101 : Int32)), (.int (100 : Int32)), (.int (32 : Int32)), (.int (112 : Int32)), (.int (97 : Int32)), (.int (116 : Int32)), (.int (104 : Int32)), (.int (32 : Int32)), (.int (34 : Int32)), (.int (34 : Int32)), (.int (32 : Int32)), (.int (100 : Int32)), (.int (111 : Int32)), (.int (101 : Int32)), (.int (115 : Int32)), (.int (32 : Int32)), (.int (110 : Int32)), (.int (111 : Int32)), (.int (116 : Int32)), (.int (32 : Int32)), (.int (115 : Int32)), (.int (116 : Int32)), (.int (0 : Int32)), (.int (0 : Int32)), (.int (0 : Int32)), (.int (0 : Int32)), (.int (0 : Int32)), (.int (0 : Int32)), (.int (0 : Int32)), (.int (0 : Int32)), (.int (0 : Int32)), (.int (0 : Int32))] (.int 0) := by exact Bd
        clear Bd
        replace Vu := Vu.other Wd29 (Or.inl nud)
        replace Cu := Cu.other Wd29 (Or.inl nud)
        replace Xu := Xu.wr Wd29
        replace T0 := ext_wr T0 Wd29 gd
        clear Wd29
        refine Run.pure hK (seg := [(1140, .dup, 1), (1141, .bipush 30, 2), (1143, .bipush 97, 2)]) (by decide +kernel) (pc' := 1145) (L' := #[.val (.int i0), .val (.int i1), .val (.int i2), .val (.int a), .val (.int b), .val (.int x), .val (.int y), .val (.int g1), .val (.int g2), .val (.ref sC), .val (.ref sP), .unset, .unset, .unset]) (S' := [(.int (97 : Int32)), (.int (30 : Int32)), (.ref ad), (.ref ad), (.ref au), (.ref au)]) rfl ?_
        refine Run.cst hK Ad ⟨by decide, by decide⟩ gdz (by decide +kernel) (fun hd30 Wd30 Bd => ?_)
        replace Ad : Arv Z hd30 ad kd .char (40 : Int32) [(.int (105 : Int32)), (.int (116 : Int32)), (.int (115 : Int32)), (.int (32 : Int32)), (.int (109 : Int32)), (.int (97 : Int32)), (.int (112 : Int32)), (.int (112 : Int32)), (.int (101 : Int32)), (.int (100 : Int32)), (.int (32 : Int32)), (.int (112 : Int32)), (.int (97 : Int32)), (.int (116 : Int32)), (.int (104 : Int32)), (.int (32 : Int32)), (.int (34 : Int32)), (.int (34 : Int32)), (.int (32 : Int32)), (.int (100 : Int32)), (.int (111 : Int32)), (.int (101 : Int32)), (.int (115 : Int32)), (.int (32 : Int32)), (.int (110 : Int32)), (.int (111 : Int32)), (.int (116 : Int32)), (.int (32 : Int32)), (.int (115 : Int32)), (.int (116 : Int32)), (.int (97 : Int32)), (.int (0 : Int32)), (.int (0 : Int32)), (.int (0 : Int32)), (.int (0 : Int32)), (.int (0 : Int32)), (.int (0 : Int32)), (.int (0 : Int32)), (.int (0 : Int32)), (.int (0 : Int32))] (.int 0) := by exact Bd
        clear Bd
        replace Vu := Vu.other Wd30 (Or.inl nud)
        replace Cu := Cu.other Wd30 (Or.inl nud)
        replace Xu := Xu.wr Wd30
        replace T0 := ext_wr T0 Wd30 gd
        clear Wd30
        refine Run.pure hK (seg := [(1146, .dup, 1), (1147, .bipush 31, 2), (1149, .bipush 114, 2)]) (by decide +kernel) (pc' := 1151) (L' := #[.val (.int i0), .val (.int i1), .val (.int i2), .val (.int a), .val (.int b), .val (.int x), .val (.int y), .val (.int g1), .val (.int g2), .val (.ref sC), .val (.ref sP), .unset, .unset, .unset]) (S' := [(.int (114 : Int32)), (.int (31 : Int32)), (.ref ad), (.ref ad), (.ref au), (.ref au)]) rfl ?_
        refine Run.cst hK Ad ⟨by decide, by decide⟩ gdz (by decide +kernel) (fun hd31 Wd31 Bd => ?_)
        replace Ad : Arv Z hd31 ad kd .char (40 : Int32) [(.int (105 : Int32)), (.int (116 : Int32)), (.int (115 : Int32)), (.int (32 : Int32)), (.int (109 : Int32)), (.int (97 : Int32)), (.int (112 : Int32)), (.int (112 : Int32)), (.int (101 : Int32)), (.int (100 : Int32)), (.int (32 : Int32)), (.int (112 : Int32)), (.int (97 : Int32)), (.int (116 : Int32)), (.int (104 : Int32)), (.int (32 : Int32)), (.int (34 : Int32)), (.int (34 : Int32)), (.int (32 : Int32)), (.int (100 : Int32)), (.int (111 : Int32)), (.int (101 : Int32)), (.int (115 : Int32)), (.int (32 : Int32)), (.int (110 : Int32)), (.int (111 : Int32)), (.int (116 : Int32)), (.int (32 : Int32)), (.int (115 : Int32)), (.int (116 : Int32)), (.int (97 : Int32)), (.int (114 : Int32)), (.int (0 : Int32)), (.int (0 : Int32)), (.int (0 : Int32)), (.int (0 : Int32)), (.int (0 : Int32)), (.int (0 : Int32)), (.int (0 : Int32)), (.int (0 : Int32))] (.int 0) := by exact Bd
        clear Bd
        replace Vu := Vu.other Wd31 (Or.inl nud)
        replace Cu := Cu.other Wd31 (Or.inl nud)
        replace Xu := Xu.wr Wd31
        replace T0 := ext_wr T0 Wd31 gd
        clear Wd31
        refine Run.pure hK (seg := [(1152, .dup, 1), (1153, .bipush 32, 2), (1155, .bipush 116, 2)]) (by decide +kernel) (pc' := 1157) (L' := #[.val (.int i0), .val (.int i1), .val (.int i2), .val (.int a), .val (.int b), .val (.int x), .val (.int y), .val (.int g1), .val (.int g2), .val (.ref sC), .val (.ref sP), .unset, .unset, .unset]) (S' := [(.int (116 : Int32)), (.int (32 : Int32)), (.ref ad), (.ref ad), (.ref au), (.ref au)]) rfl ?_
        refine Run.cst hK Ad ⟨by decide, by decide⟩ gdz (by decide +kernel) (fun hd32 Wd32 Bd => ?_)
        replace Ad : Arv Z hd32 ad kd .char (40 : Int32) [(.int (105 : Int32)), (.int (116 : Int32)), (.int (115 : Int32)), (.int (32 : Int32)), (.int (109 : Int32)), (.int (97 : Int32)), (.int (112 : Int32)), (.int (112 : Int32)), (.int (101 : Int32)), (.int (100 : Int32)), (.int (32 : Int32)), (.int (112 : Int32)), (.int (97 : Int32)), (.int (116 : Int32)), (.int (104 : Int32)), (.int (32 : Int32)), (.int (34 : Int32)), (.int (34 : Int32)), (.int (32 : Int32)), (.int (100 : Int32)), (.int (111 : Int32)), (.int (101 : Int32)), (.int (115 : Int32)), (.int (32 : Int32)), (.int (110 : Int32)), (.int (111 : Int32)), (.int (116 : Int32)), (.int (32 : Int32)), (.int (115 : Int32)), (.int (116 : Int32)), (.int (97 : Int32)), (.int (114 : Int32)), (.int (116 : Int32)), (.int (0 : Int32)), (.int (0 : Int32)), (.int (0 : Int32)), (.int (0 : Int32)), (.int (0 : Int32)), (.int (0 : Int32)), (.int (0 : Int32))] (.int 0) := by exact Bd
        clear Bd
        replace Vu := Vu.other Wd32 (Or.inl nud)
        replace Cu := Cu.other Wd32 (Or.inl nud)
        replace Xu := Xu.wr Wd32
        replace T0 := ext_wr T0 Wd32 gd
        clear Wd32
        refine Run.pure hK (seg := [(1158, .dup, 1), (1159, .bipush 33, 2), (1161, .bipush 32, 2)]) (by decide +kernel) (pc' := 1163) (L' := #[.val (.int i0), .val (.int i1), .val (.int i2), .val (.int a), .val (.int b), .val (.int x), .val (.int y), .val (.int g1), .val (.int g2), .val (.ref sC), .val (.ref sP), .unset, .unset, .unset]) (S' := [(.int (32 : Int32)), (.int (33 : Int32)), (.ref ad), (.ref ad), (.ref au), (.ref au)]) rfl ?_
        refine Run.cst hK Ad ⟨by decide, by decide⟩ gdz (by decide +kernel) (fun hd33 Wd33 Bd => ?_)
        replace Ad : Arv Z hd33 ad kd .char (40 : Int32) [(.int (105 : Int32)), (.int (116 : Int32)), (.int (115 : Int32)), (.int (32 : Int32)), (.int (109 : Int32)), (.int (97 : Int32)), (.int (112 : Int32)), (.int (112 : Int32)), (.int (101 : Int32)), (.int (100 : Int32)), (.int (32 : Int32)), (.int (112 : Int32)), (.int (97 : Int32)), (.int (116 : Int32)), (.int (104 : Int32)), (.int (32 : Int32)), (.int (34 : Int32)), (.int (34 : Int32)), (.int (32 : Int32)), (.int (100 : Int32)), (.int (111 : Int32)), (.int (101 : Int32)), (.int (115 : Int32)), (.int (32 : Int32)), (.int (110 : Int32)), (.int (111 : Int32)), (.int (116 : Int32)), (.int (32 : Int32)), (.int (115 : Int32)), (.int (116 : Int32)), (.int (97 : Int32)), (.int (114 : Int32)), (.int (116 : Int32)), (.int (32 : Int32)), (.int (0 : Int32)), (.int (0 : Int32)), (.int (0 : Int32)), (.int (0 : Int32)), (.int (0 : Int32)), (.int (0 : Int32))] (.int 0) := by exact Bd
        clear Bd
        replace Vu := Vu.other Wd33 (Or.inl nud)
        replace Cu := Cu.other Wd33 (Or.inl nud)
        replace Xu := Xu.wr Wd33
        replace T0 := ext_wr T0 Wd33 gd
        clear Wd33
        refine Run.pure hK (seg := [(1164, .dup, 1), (1165, .bipush 34, 2), (1167, .bipush 119, 2)]) (by decide +kernel) (pc' := 1169) (L' := #[.val (.int i0), .val (.int i1), .val (.int i2), .val (.int a), .val (.int b), .val (.int x), .val (.int y), .val (.int g1), .val (.int g2), .val (.ref sC), .val (.ref sP), .unset, .unset, .unset]) (S' := [(.int (119 : Int32)), (.int (34 : Int32)), (.ref ad), (.ref ad), (.ref au), (.ref au)]) rfl ?_
        refine Run.cst hK Ad ⟨by decide, by decide⟩ gdz (by decide +kernel) (fun hd34 Wd34 Bd => ?_)
        replace Ad : Arv Z hd34 ad kd .char (40 : Int32) [(.int (105 : Int32)), (.int (116 : Int32)), (.int (115 : Int32)), (.int (32 : Int32)), (.int (109 : Int32)), (.int (97 : Int32)), (.int (112 : Int32)), (.int (112 : Int32)), (.int (101 : Int32)), (.int (100 : Int32)), (.int (32 : Int32)), (.int (112 : Int32)), (.int (97 : Int32)), (.int (116 : Int32)), (.int (104 : Int32)), (.int (32 : Int32)), (.int (34 : Int32)), (.int (34 : Int32)), (.int (32 : Int32)), (.int (100 : Int32)), (.int (111 : Int32)), (.int (101 : Int32)), (.int (115 : Int32)), (.int (32 : Int32)), (.int (110 : Int32)), (.int (111 : Int32)), (.int (116 : Int32)), (.int (32 : Int32)), (.int (115 : Int32)), (.int (116 : Int32)), (.int (97 : Int32)), (.int (114 : Int32)), (.int (116 : Int32)), (.int (32 : Int32)), (.int (119 : Int32)), (.int (0 : Int32)), (.int (0 : Int32)), (.int (0 : Int32)), (.int (0 : Int32)), (.int (0 : Int32))] (.int 0) := by exact Bd
        clear Bd
        replace Vu := Vu.other Wd34 (Or.inl nud)
        replace Cu := Cu.other Wd34 (Or.inl nud)
        replace Xu := Xu.wr Wd34
        replace T0 := ext_wr T0 Wd34 gd
        clear Wd34
        refine Run.pure hK (seg := [(1170, .dup, 1), (1171, .bipush 35, 2), (1173, .bipush 105, 2)]) (by decide +kernel) (pc' := 1175) (L' := #[.val (.int i0), .val (.int i1), .val (.int i2), .val (.int a), .val (.int b), .val (.int x), .val (.int y), .val (.int g1), .val (.int g2), .val (.ref sC), .val (.ref sP), .unset, .unset, .unset]) (S' := [(.int (105 : Int32)), (.int (35 : Int32)), (.ref ad), (.ref ad), (.ref au), (.ref au)]) rfl ?_
        refine Run.cst hK Ad ⟨by decide, by decide⟩ gdz (by decide +kernel) (fun hd35 Wd35 Bd => ?_)
        replace Ad : Arv Z hd35 ad kd .char (40 : Int32) [(.int (105 : Int32)), (.int (116 : Int32)), (.int (115 : Int32)), (.int (32 : Int32)), (.int (109 : Int32)), (.int (97 : Int32)), (.int (112 : Int32)), (.int (112 : Int32)), (.int (101 : Int32)), (.int (100 : Int32)), (.int (32 : Int32)), (.int (112 : Int32)), (.int (97 : Int32)), (.int (116 : Int32)), (.int (104 : Int32)), (.int (32 : Int32)), (.int (34 : Int32)), (.int (34 : Int32)), (.int (32 : Int32)), (.int (100 : Int32)), (.int (111 : Int32)), (.int (101 : Int32)), (.int (115 : Int32)), (.int (32 : Int32)), (.int (110 : Int32)), (.int (111 : Int32)), (.int (116 : Int32)), (.int (32 : Int32)), (.int (115 : Int32)), (.int (116 : Int32)), (.int (97 : Int32)), (.int (114 : Int32)), (.int (116 : Int32)), (.int (32 : Int32)), (.int (119 : Int32)), (.int (105 : Int32)), (.int (0 : Int32)), (.int (0 : Int32)), (.int (0 : Int32)), (.int (0 : Int32))] (.int 0) := by exact Bd
        clear Bd
        replace Vu := Vu.other Wd35 (Or.inl nud)
        replace Cu := Cu.other Wd35 (Or.inl nud)
        replace Xu := Xu.wr Wd35
        replace T0 := ext_wr T0 Wd35 gd
        clear Wd35
        refine Run.pure hK (seg := [(1176, .dup, 1), (1177, .bipush 36, 2), (1179, .bipush 116, 2)]) (by decide +kernel) (pc' := 1181) (L' := #[.val (.int i0), .val (.int i1), .val (.int i2), .val (.int a), .val (.int b), .val (.int x), .val (.int y), .val (.int g1), .val (.int g2), .val (.ref sC), .val (.ref sP), .unset, .unset, .unset]) (S' := [(.int (116 : Int32)), (.int (36 : Int32)), (.ref ad), (.ref ad), (.ref au), (.ref au)]) rfl ?_
        refine Run.cst hK Ad ⟨by decide, by decide⟩ gdz (by decide +kernel) (fun hd36 Wd36 Bd => ?_)
        replace Ad : Arv Z hd36 ad kd .char (40 : Int32) [(.int (105 : Int32)), (.int (116 : Int32)), (.int (115 : Int32)), (.int (32 : Int32)), (.int (109 : Int32)), (.int (97 : Int32)), (.int (112 : Int32)), (.int (112 : Int32)), (.int (101 : Int32)), (.int (100 : Int32)), (.int (32 : Int32)), (.int (112 : Int32)), (.int (97 : Int32)), (.int (116 : Int32)), (.int (104 : Int32)), (.int (32 : Int32)), (.int (34 : Int32)), (.int (34 : Int32)), (.int (32 : Int32)), (.int (100 : Int32)), (.int (111 : Int32)), (.int (101 : Int32)), (.int (115 : Int32)), (.int (32 : Int32)), (.int (110 : Int32)), (.int (111 : Int32)), (.int (116 : Int32)), (.int (32 : Int32)), (.int (115 : Int32)), (.int (116 : Int32)), (.int (97 : Int32)), (.int (114 : Int32)), (.int (116 : Int32)), (.int (32 : Int32)), (.int (119 : Int32)), (.int (105 : Int32)), (.int (116 : Int32)), (.int (0 : Int32)), (.int (0 : Int32)), (.int (0 : Int32))] (.int 0) := by exact Bd
        clear Bd
        replace Vu := Vu.other Wd36 (Or.inl nud)
        replace Cu := Cu.other Wd36 (Or.inl nud)
        replace Xu := Xu.wr Wd36
        replace T0 := ext_wr T0 Wd36 gd
        clear Wd36
        refine Run.pure hK (seg := [(1182, .dup, 1), (1183, .bipush 37, 2), (1185, .bipush 104, 2)]) (by decide +kernel) (pc' := 1187) (L' := #[.val (.int i0), .val (.int i1), .val (.int i2), .val (.int a), .val (.int b), .val (.int x), .val (.int y), .val (.int g1), .val (.int g2), .val (.ref sC), .val (.ref sP), .unset, .unset, .unset]) (S' := [(.int (104 : Int32)), (.int (37 : Int32)), (.ref ad), (.ref ad), (.ref au), (.ref au)]) rfl ?_
        refine Run.cst hK Ad ⟨by decide, by decide⟩ gdz (by decide +kernel) (fun hd37 Wd37 Bd => ?_)
        replace Ad : Arv Z hd37 ad kd .char (40 : Int32) [(.int (105 : Int32)), (.int (116 : Int32)), (.int (115 : Int32)), (.int (32 : Int32)), (.int (109 : Int32)), (.int (97 : Int32)), (.int (112 : Int32)), (.int (112 : Int32)), (.int (101 : Int32)), (.int (100 : Int32)), (.int (32 : Int32)), (.int (112 : Int32)), (.int (97 : Int32)), (.int (116 : Int32)), (.int (104 : Int32)), (.int (32 : Int32)), (.int (34 : Int32)), (.int (34 : Int32)), (.int (32 : Int32)), (.int (100 : Int32)), (.int (111 : Int32)), (.int (101 : Int32)), (.int (115 : Int32)), (.int (32 : Int32)), (.int (110 : Int32)), (.int (111 : Int32)), (.int (116 : Int32)), (.int (32 : Int32)), (.int (115 : Int32)), (.int (116 : Int32)), (.int (97 : Int32)), (.int (114 : Int32)), (.int (116 : Int32)), (.int (32 : Int32)), (.int (119 : Int32)), (.int (105 : Int32)), (.int (116 : Int32)), (.int (104 : Int32)), (.int (0 : Int32)), (.int (0 : Int32))] (.int 0) := by exact Bd
        clear Bd
        replace Vu := Vu.other Wd37 (Or.inl nud)
        replace Cu := Cu.other Wd37 (Or.inl nud)
        replace Xu := Xu.wr Wd37
        replace T0 := ext_wr T0 Wd37 gd
        clear Wd37
        refine Run.pure hK (seg := [(1188, .dup, 1), (1189, .bipush 38, 2), (1191, .bipush 32, 2)]) (by decide +kernel) (pc' := 1193) (L' := #[.val (.int i0), .val (.int i1), .val (.int i2), .val (.int a), .val (.int b), .val (.int x), .val (.int y), .val (.int g1), .val (.int g2), .val (.ref sC), .val (.ref sP), .unset, .unset, .unset]) (S' := [(.int (32 : Int32)), (.int (38 : Int32)), (.ref ad), (.ref ad), (.ref au), (.ref au)]) rfl ?_
        refine Run.cst hK Ad ⟨by decide, by decide⟩ gdz (by decide +kernel) (fun hd38 Wd38 Bd => ?_)
        replace Ad : Arv Z hd38 ad kd .char (40 : Int32) [(.int (105 : Int32)), (.int (116 : Int32)), (.int (115 : Int32)), (.int (32 : Int32)), (.int (109 : Int32)), (.int (97 : Int32)), (.int (112 : Int32)), (.int (112 : Int32)), (.int (101 : Int32)), (.int (100 : Int32)), (.int (32 : Int32)), (.int (112 : Int32)), (.int (97 : Int32)), (.int (116 : Int32)), (.int (104 : Int32)), (.int (32 : Int32)), (.int (34 : Int32)), (.int (34 : Int32)), (.int (32 : Int32)), (.int (100 : Int32)), (.int (111 : Int32)), (.int (101 : Int32)), (.int (115 : Int32)), (.int (32 : Int32)), (.int (110 : Int32)), (.int (111 : Int32)), (.int (116 : Int32)), (.int (32 : Int32)), (.int (115 : Int32)), (.int (116 : Int32)), (.int (97 : Int32)), (.int (114 : Int32)), (.int (116 : Int32)), (.int (32 : Int32)), (.int (119 : Int32)), (.int (105 : Int32)), (.int (116 : Int32)), (.int (104 : Int32)), (.int (32 : Int32)), (.int (0 : Int32))] (.int 0) := by exact Bd
        clear Bd
        replace Vu := Vu.other Wd38 (Or.inl nud)
        replace Cu := Cu.other Wd38 (Or.inl nud)
        replace Xu := Xu.wr Wd38
        replace T0 := ext_wr T0 Wd38 gd
        clear Wd38
        refine Run.pure hK (seg := [(1194, .dup, 1), (1195, .bipush 39, 2), (1197, .bipush 47, 2)]) (by decide +kernel) (pc' := 1199) (L' := #[.val (.int i0), .val (.int i1), .val (.int i2), .val (.int a), .val (.int b), .val (.int x), .val (.int y), .val (.int g1), .val (.int g2), .val (.ref sC), .val (.ref sP), .unset, .unset, .unset]) (S' := [(.int (47 : Int32)), (.int (39 : Int32)), (.ref ad), (.ref ad), (.ref au), (.ref au)]) rfl ?_
        refine Run.cst hK Ad ⟨by decide, by decide⟩ gdz (by decide +kernel) (fun hd39 Wd39 Bd => ?_)
        replace Ad : Arv Z hd39 ad kd .char (40 : Int32) [(.int (105 : Int32)), (.int (116 : Int32)), (.int (115 : Int32)), (.int (32 : Int32)), (.int (109 : Int32)), (.int (97 : Int32)), (.int (112 : Int32)), (.int (112 : Int32)), (.int (101 : Int32)), (.int (100 : Int32)), (.int (32 : Int32)), (.int (112 : Int32)), (.int (97 : Int32)), (.int (116 : Int32)), (.int (104 : Int32)), (.int (32 : Int32)), (.int (34 : Int32)), (.int (34 : Int32)), (.int (32 : Int32)), (.int (100 : Int32)), (.int (111 : Int32)), (.int (101 : Int32)), (.int (115 : Int32)), (.int (32 : Int32)), (.int (110 : Int32)), (.int (111 : Int32)), (.int (116 : Int32)), (.int (32 : Int32)), (.int (115 : Int32)), (.int (116 : Int32)), (.int (97 : Int32)), (.int (114 : Int32)), (.int (116 : Int32)), (.int (32 : Int32)), (.int (119 : Int32)), (.int (105 : Int32)), (.int (116 : Int32)), (.int (104 : Int32)), (.int (32 : Int32)), (.int (47 : Int32))] (.int 0) := by exact Bd
        clear Bd
        replace Vu := Vu.other Wd39 (Or.inl nud)
        replace Cu := Cu.other Wd39 (Or.inl nud)
        replace Xu := Xu.wr Wd39
        replace T0 := ext_wr T0 Wd39 gd
        clear Wd39
        refine Run.special hK (index := 9) (y := (⟨"java/lang/String", "<init>", "([C)V"⟩ : MethodName)) (Wt := 1) (kc := 4) (ks := 44) rfl (hw _ (List.mem_of_getElem? (i := 4) rfl)) (hw _ (List.mem_of_getElem? (i := 5) rfl)) (hw _ (List.mem_of_getElem? (i := 6) rfl)) (by decide) (a := au) (fun _ q => q) (cal_newS G (cs := [(105 : Int32), (116 : Int32), (115 : Int32), (32 : Int32), (109 : Int32), (97 : Int32), (112 : Int32), (112 : Int32), (101 : Int32), (100 : Int32), (32 : Int32), (112 : Int32), (97 : Int32), (116 : Int32), (104 : Int32), (32 : Int32), (34 : Int32), (34 : Int32), (32 : Int32), (100 : Int32), (111 : Int32), (101 : Int32), (115 : Int32), (32 : Int32), (110 : Int32), (111 : Int32), (116 : Int32), (32 : Int32), (115 : Int32), (116 : Int32), (97 : Int32), (114 : Int32), (116 : Int32), (32 : Int32), (119 : Int32), (105 : Int32), (116 : Int32), (104 : Int32), (32 : Int32), (47 : Int32)]) (Nat.le_trans hO5.1 gu) (by simp) Xu Vu Cu Ad rfl (Nat.le_of_ble_eq_true rfl) (fun c hc => by simp only [List.mem_cons, List.not_mem_nil, or_false] at hc; rcases hc with rfl | rfl | rfl | rfl | rfl | rfl | rfl | rfl | rfl | rfl | rfl | rfl | rfl | rfl | rfl | rfl | rfl | rfl | rfl | rfl | rfl | rfl | rfl | rfl | rfl | rfl | rfl | rfl | rfl | rfl | rfl | rfl | rfl | rfl | rfl | rfl | rfl | rfl | rfl | rfl <;> decide) (by decide) (by decide) (kc := 4) (ks := 44) (by decide) (by decide) (Nat.le_of_ble_eq_true rfl)) rfl (argsL := [(.ref ad)]) (rest := [(.ref au)]) (lenOf pd_s1 rfl) rfl (Nat.le_of_ble_eq_true rfl) (by decide +kernel) (by decide) (by decide) (fun vi hi qi ni => ?_)
        obtain ⟨rfl, Fi, Ki⟩ := qi
        have Ti := ext_keep T0 Ki (fun x hx => by cases List.mem_singleton.mp hx; exact gu)
        refine Run.pure hK (seg := [(1203, .astore 11, 2)]) (by decide +kernel) (pc' := 1205) (L' := #[.val (.int i0), .val (.int i1), .val (.int i2), .val (.int a), .val (.int b), .val (.int x), .val (.int y), .val (.int g1), .val (.int g2), .val (.ref sC), .val (.ref sP), .val (.ref au), .unset, .unset]) (S' := []) rfl ?_
        refine Run.less (W' := []) ?_ (fun _ q => nomatch q)
        refine Run.mono (s5 _ _ ?_ Ti) (by decide) (by decide)
        rw [Cn0 r1, Cn0 r2]; exact Fi
      · replace r2 := (h_eq _ _).2 r2
        refine Run.new hK (index := 7) (C := "java/lang/String") (n := 4) (hw _ (List.mem_of_getElem? (i := 0) rfl)) (hw _ (List.mem_of_getElem? (i := 1) rfl)) (hw _ (List.mem_of_getElem? (i := 2) rfl)) (by decide +kernel) (by decide) (by decide) (fun hu Eu Xu Du => ?_)
        obtain ⟨au, zu⟩ : ∃ z, z = f4.size := ⟨_, rfl⟩
        rw [← zu]
        rw [← zu] at Xu Du
        refine Run.pure hK (seg := [(699, .dup, 1), (700, .bipush 42, 2)]) (by decide +kernel) (pc' := 702) (L' := #[.val (.int i0), .val (.int i1), .val (.int i2), .val (.int a), .val (.int b), .val (.int x), .val (.int y), .val (.int g1), .val (.int g2), .val (.ref sC), .val (.ref sP), .unset, .unset, .unset]) (S' := [(.int (42 : Int32)), (.ref au), (.ref au)]) rfl ?_
        have Vu := Du (Or.inr (hw _ (List.mem_of_getElem? (i := 16) rfl))) (ty := .array .byte) (by decide)
        have Cu := Du (Or.inr (hw _ (List.mem_of_getElem? (i := 17) rfl))) (ty := .byte) (by decide)
        refine Run.newarr hK (aty := .char) (hw _ (List.mem_of_getElem? (i := 3) rfl)) (by decide +kernel) (by decide) (cap := 42) (by decide) (by decide) (by decide) (by decide) (fun hd kd Ed Ad => ?_)
        obtain ⟨ad, zd⟩ : ∃ z, z = hu.size := ⟨_, rfl⟩
        rw [← zd]
        rw [← zd] at Ad
        have nud : au ≠ ad := fun z => absurd Xu.lt (by rw [z, zd]; exact Nat.lt_irrefl _)
        have gd : f4.size ≤ ad := by rw [zd]; exact Eu.1
        have gu : f4.size ≤ au := by rw [zu]; exact Nat.le_refl _
        replace Xu := Xu.ext Ed
        replace Vu := Vu.ext Ed
        replace Cu := Cu.ext Ed
        have T0 := Ext.tr Eu Ed
        have gdz := Nat.le_trans hO5.1 gd
        refine Run.pure hK (seg := [(704, .dup, 1), (705, .iconst 0, 1), (706, .bipush 105, 2)]) (by decide +kernel) (pc' := 708) (L' := #[.val (.int i0), .val (.int i1), .val (.int i2), .val (.int a), .val (.int b), .val (.int x), .val (.int y), .val (.int g1), .val (.int g2), .val (.ref sC), .val (.ref sP), .unset, .unset, .unset]) (S' := [(.int (105 : Int32)), (.int (0 : Int32)), (.ref ad), (.ref ad), (.ref au), (.ref au)]) rfl ?_
        refine Run.cst hK Ad ⟨by decide, by decide⟩ gdz (by decide +kernel) (fun hd0 Wd0 Bd => ?_)
        replace Ad : Arv Z hd0 ad kd .char (42 : Int32) [(.int (105 : Int32)), (.int (0 : Int32)), (.int (0 : Int32)), (.int (0 : Int32)), (.int (0 : Int32)), (.int (0 : Int32)), (.int (0 : Int32)), (.int (0 : Int32)), (.int (0 : Int32)), (.int (0 : Int32)), (.int (0 : Int32)), (.int (0 : Int32)), (.int (0 : Int32)), (.int (0 : Int32)), (.int (0 : Int32)), (.int (0 : Int32)), (.int (0 : Int32)), (.int (0 : Int32)), (.int (0 : Int32)), (.int (0 : Int32)), (.int (0 : Int32)), (.int (0 : Int32)), (.int (0 : Int32)), (.int (0 : Int32)), (.int (0 : Int32)), (.int (0 : Int32)), (.int (0 : Int32)), (.int (0 : Int32)), (.int (0 : Int32)), (.int (0 : Int32)), (.int (0 : Int32)), (.int (0 : Int32)), (.int (0 : Int32)), (.int (0 : Int32)), (.int (0 : Int32)), (.int (0 : Int32)), (.int (0 : Int32)), (.int (0 : Int32)), (.int (0 : Int32)), (.int (0 : Int32)), (.int (0 : Int32)), (.int (0 : Int32))] (.int 0) := by exact Bd
        clear Bd
        replace Vu := Vu.other Wd0 (Or.inl nud)
        replace Cu := Cu.other Wd0 (Or.inl nud)
        replace Xu := Xu.wr Wd0
        replace T0 := ext_wr T0 Wd0 gd
        clear Wd0
        refine Run.pure hK (seg := [(709, .dup, 1), (710, .iconst 1, 1), (711, .bipush 116, 2)]) (by decide +kernel) (pc' := 713) (L' := #[.val (.int i0), .val (.int i1), .val (.int i2), .val (.int a), .val (.int b), .val (.int x), .val (.int y), .val (.int g1), .val (.int g2), .val (.ref sC), .val (.ref sP), .unset, .unset, .unset]) (S' := [(.int (116 : Int32)), (.int (1 : Int32)), (.ref ad), (.ref ad), (.ref au), (.ref au)]) rfl ?_
        refine Run.cst hK Ad ⟨by decide, by decide⟩ gdz (by decide +kernel) (fun hd1 Wd1 Bd => ?_)
        replace Ad : Arv Z hd1 ad kd .char (42 : Int32) [(.int (105 : Int32)), (.int (116 : Int32)), (.int (0 : Int32)), (.int (0 : Int32)), (.int (0 : Int32)), (.int (0 : Int32)), (.int (0 : Int32)), (.int (0 : Int32)), (.int (0 : Int32)), (.int (0 : Int32)), (.int (0 : Int32)), (.int (0 : Int32)), (.int (0 : Int32)), (.int (0 : Int32)), (.int (0 : Int32)), (.int (0 : Int32)), (.int (0 : Int32)), (.int (0 : Int32)), (.int (0 : Int32)), (.int (0 : Int32)), (.int (0 : Int32)), (.int (0 : Int32)), (.int (0 : Int32)), (.int (0 : Int32)), (.int (0 : Int32)), (.int (0 : Int32)), (.int (0 : Int32)), (.int (0 : Int32)), (.int (0 : Int32)), (.int (0 : Int32)), (.int (0 : Int32)), (.int (0 : Int32)), (.int (0 : Int32)), (.int (0 : Int32)), (.int (0 : Int32)), (.int (0 : Int32)), (.int (0 : Int32)), (.int (0 : Int32)), (.int (0 : Int32)), (.int (0 : Int32)), (.int (0 : Int32)), (.int (0 : Int32))] (.int 0) := by exact Bd
        clear Bd
        replace Vu := Vu.other Wd1 (Or.inl nud)
        replace Cu := Cu.other Wd1 (Or.inl nud)
        replace Xu := Xu.wr Wd1
        replace T0 := ext_wr T0 Wd1 gd
        clear Wd1
        refine Run.pure hK (seg := [(714, .dup, 1), (715, .iconst 2, 1), (716, .bipush 115, 2)]) (by decide +kernel) (pc' := 718) (L' := #[.val (.int i0), .val (.int i1), .val (.int i2), .val (.int a), .val (.int b), .val (.int x), .val (.int y), .val (.int g1), .val (.int g2), .val (.ref sC), .val (.ref sP), .unset, .unset, .unset]) (S' := [(.int (115 : Int32)), (.int (2 : Int32)), (.ref ad), (.ref ad), (.ref au), (.ref au)]) rfl ?_
        refine Run.cst hK Ad ⟨by decide, by decide⟩ gdz (by decide +kernel) (fun hd2 Wd2 Bd => ?_)
        replace Ad : Arv Z hd2 ad kd .char (42 : Int32) [(.int (105 : Int32)), (.int (116 : Int32)), (.int (115 : Int32)), (.int (0 : Int32)), (.int (0 : Int32)), (.int (0 : Int32)), (.int (0 : Int32)), (.int (0 : Int32)), (.int (0 : Int32)), (.int (0 : Int32)), (.int (0 : Int32)), (.int (0 : Int32)), (.int (0 : Int32)), (.int (0 : Int32)), (.int (0 : Int32)), (.int (0 : Int32)), (.int (0 : Int32)), (.int (0 : Int32)), (.int (0 : Int32)), (.int (0 : Int32)), (.int (0 : Int32)), (.int (0 : Int32)), (.int (0 : Int32)), (.int (0 : Int32)), (.int (0 : Int32)), (.int (0 : Int32)), (.int (0 : Int32)), (.int (0 : Int32)), (.int (0 : Int32)), (.int (0 : Int32)), (.int (0 : Int32)), (.int (0 : Int32)), (.int (0 : Int32)), (.int (0 : Int32)), (.int (0 : Int32)), (.int (0 : Int32)), (.int (0 : Int32)), (.int (0 : Int32)), (.int (0 : Int32)), (.int (0 : Int32)), (.int (0 : Int32)), (.int (0 : Int32))] (.int 0) := by exact Bd
        clear Bd
        replace Vu := Vu.other Wd2 (Or.inl nud)
        replace Cu := Cu.other Wd2 (Or.inl nud)
        replace Xu := Xu.wr Wd2
        replace T0 := ext_wr T0 Wd2 gd
        clear Wd2
        refine Run.pure hK (seg := [(719, .dup, 1), (720, .iconst 3, 1), (721, .bipush 32, 2)]) (by decide +kernel) (pc' := 723) (L' := #[.val (.int i0), .val (.int i1), .val (.int i2), .val (.int a), .val (.int b), .val (.int x), .val (.int y), .val (.int g1), .val (.int g2), .val (.ref sC), .val (.ref sP), .unset, .unset, .unset]) (S' := [(.int (32 : Int32)), (.int (3 : Int32)), (.ref ad), (.ref ad), (.ref au), (.ref au)]) rfl ?_
        refine Run.cst hK Ad ⟨by decide, by decide⟩ gdz (by decide +kernel) (fun hd3 Wd3 Bd => ?_)
        replace Ad : Arv Z hd3 ad kd .char (42 : Int32) [(.int (105 : Int32)), (.int (116 : Int32)), (.int (115 : Int32)), (.int (32 : Int32)), (.int (0 : Int32)), (.int (0 : Int32)), (.int (0 : Int32)), (.int (0 : Int32)), (.int (0 : Int32)), (.int (0 : Int32)), (.int (0 : Int32)), (.int (0 : Int32)), (.int (0 : Int32)), (.int (0 : Int32)), (.int (0 : Int32)), (.int (0 : Int32)), (.int (0 : Int32)), (.int (0 : Int32)), (.int (0 : Int32)), (.int (0 : Int32)), (.int (0 : Int32)), (.int (0 : Int32)), (.int (0 : Int32)), (.int (0 : Int32)), (.int (0 : Int32)), (.int (0 : Int32)), (.int (0 : Int32)), (.int (0 : Int32)), (.int (0 : Int32)), (.int (0 : Int32)), (.int (0 : Int32)), (.int (0 : Int32)), (.int (0 : Int32)), (.int (0 : Int32)), (.int (0 : Int32)), (.int (0 : Int32)), (.int (0 : Int32)), (.int (0 : Int32)), (.int (0 : Int32)), (.int (0 : Int32)), (.int (0 : Int32)), (.int (0 : Int32))] (.int 0) := by exact Bd
        clear Bd
        replace Vu := Vu.other Wd3 (Or.inl nud)
        replace Cu := Cu.other Wd3 (Or.inl nud)
        replace Xu := Xu.wr Wd3
        replace T0 := ext_wr T0 Wd3 gd
        clear Wd3
        refine Run.pure hK (seg := [(724, .dup, 1), (725, .iconst 4, 1), (726, .bipush 109, 2)]) (by decide +kernel) (pc' := 728) (L' := #[.val (.int i0), .val (.int i1), .val (.int i2), .val (.int a), .val (.int b), .val (.int x), .val (.int y), .val (.int g1), .val (.int g2), .val (.ref sC), .val (.ref sP), .unset, .unset, .unset]) (S' := [(.int (109 : Int32)), (.int (4 : Int32)), (.ref ad), (.ref ad), (.ref au), (.ref au)]) rfl ?_
        refine Run.cst hK Ad ⟨by decide, by decide⟩ gdz (by decide +kernel) (fun hd4 Wd4 Bd => ?_)
        replace Ad : Arv Z hd4 ad kd .char (42 : Int32) [(.int (105 : Int32)), (.int (116 : Int32)), (.int (115 : Int32)), (.int (32 : Int32)), (.int (109 : Int32)), (.int (0 : Int32)), (.int (0 : Int32)), (.int (0 : Int32)), (.int (0 : Int32)), (.int (0 : Int32)), (.int (0 : Int32)), (.int (0 : Int32)), (.int (0 : Int32)), (.int (0 : Int32)), (.int (0 : Int32)), (.int (0 : Int32)), (.int (0 : Int32)), (.int (0 : Int32)), (.int (0 : Int32)), (.int (0 : Int32)), (.int (0 : Int32)), (.int (0 : Int32)), (.int (0 : Int32)), (.int (0 : Int32)), (.int (0 : Int32)), (.int (0 : Int32)), (.int (0 : Int32)), (.int (0 : Int32)), (.int (0 : Int32)), (.int (0 : Int32)), (.int (0 : Int32)), (.int (0 : Int32)), (.int (0 : Int32)), (.int (0 : Int32)), (.int (0 : Int32)), (.int (0 : Int32)), (.int (0 : Int32)), (.int (0 : Int32)), (.int (0 : Int32)), (.int (0 : Int32)), (.int (0 : Int32)), (.int (0 : Int32))] (.int 0) := by exact Bd
        clear Bd
        replace Vu := Vu.other Wd4 (Or.inl nud)
        replace Cu := Cu.other Wd4 (Or.inl nud)
        replace Xu := Xu.wr Wd4
        replace T0 := ext_wr T0 Wd4 gd
        clear Wd4
        refine Run.pure hK (seg := [(729, .dup, 1), (730, .iconst 5, 1), (731, .bipush 97, 2)]) (by decide +kernel) (pc' := 733) (L' := #[.val (.int i0), .val (.int i1), .val (.int i2), .val (.int a), .val (.int b), .val (.int x), .val (.int y), .val (.int g1), .val (.int g2), .val (.ref sC), .val (.ref sP), .unset, .unset, .unset]) (S' := [(.int (97 : Int32)), (.int (5 : Int32)), (.ref ad), (.ref ad), (.ref au), (.ref au)]) rfl ?_
        refine Run.cst hK Ad ⟨by decide, by decide⟩ gdz (by decide +kernel) (fun hd5 Wd5 Bd => ?_)
        replace Ad : Arv Z hd5 ad kd .char (42 : Int32) [(.int (105 : Int32)), (.int (116 : Int32)), (.int (115 : Int32)), (.int (32 : Int32)), (.int (109 : Int32)), (.int (97 : Int32)), (.int (0 : Int32)), (.int (0 : Int32)), (.int (0 : Int32)), (.int (0 : Int32)), (.int (0 : Int32)), (.int (0 : Int32)), (.int (0 : Int32)), (.int (0 : Int32)), (.int (0 : Int32)), (.int (0 : Int32)), (.int (0 : Int32)), (.int (0 : Int32)), (.int (0 : Int32)), (.int (0 : Int32)), (.int (0 : Int32)), (.int (0 : Int32)), (.int (0 : Int32)), (.int (0 : Int32)), (.int (0 : Int32)), (.int (0 : Int32)), (.int (0 : Int32)), (.int (0 : Int32)), (.int (0 : Int32)), (.int (0 : Int32)), (.int (0 : Int32)), (.int (0 : Int32)), (.int (0 : Int32)), (.int (0 : Int32)), (.int (0 : Int32)), (.int (0 : Int32)), (.int (0 : Int32)), (.int (0 : Int32)), (.int (0 : Int32)), (.int (0 : Int32)), (.int (0 : Int32)), (.int (0 : Int32))] (.int 0) := by exact Bd
        clear Bd
        replace Vu := Vu.other Wd5 (Or.inl nud)
        replace Cu := Cu.other Wd5 (Or.inl nud)
        replace Xu := Xu.wr Wd5
        replace T0 := ext_wr T0 Wd5 gd
        clear Wd5
        refine Run.pure hK (seg := [(734, .dup, 1), (735, .bipush 6, 2), (737, .bipush 112, 2)]) (by decide +kernel) (pc' := 739) (L' := #[.val (.int i0), .val (.int i1), .val (.int i2), .val (.int a), .val (.int b), .val (.int x), .val (.int y), .val (.int g1), .val (.int g2), .val (.ref sC), .val (.ref sP), .unset, .unset, .unset]) (S' := [(.int (112 : Int32)), (.int (6 : Int32)), (.ref ad), (.ref ad), (.ref au), (.ref au)]) rfl ?_
        refine Run.cst hK Ad ⟨by decide, by decide⟩ gdz (by decide +kernel) (fun hd6 Wd6 Bd => ?_)
        replace Ad : Arv Z hd6 ad kd .char (42 : Int32) [(.int (105 : Int32)), (.int (116 : Int32)), (.int (115 : Int32)), (.int (32 : Int32)), (.int (109 : Int32)), (.int (97 : Int32)), (.int (112 : Int32)), (.int (0 : Int32)), (.int (0 : Int32)), (.int (0 : Int32)), (.int (0 : Int32)), (.int (0 : Int32)), (.int (0 : Int32)), (.int (0 : Int32)), (.int (0 : Int32)), (.int (0 : Int32)), (.int (0 : Int32)), (.int (0 : Int32)), (.int (0 : Int32)), (.int (0 : Int32)), (.int (0 : Int32)), (.int (0 : Int32)), (.int (0 : Int32)), (.int (0 : Int32)), (.int (0 : Int32)), (.int (0 : Int32)), (.int (0 : Int32)), (.int (0 : Int32)), (.int (0 : Int32)), (.int (0 : Int32)), (.int (0 : Int32)), (.int (0 : Int32)), (.int (0 : Int32)), (.int (0 : Int32)), (.int (0 : Int32)), (.int (0 : Int32)), (.int (0 : Int32)), (.int (0 : Int32)), (.int (0 : Int32)), (.int (0 : Int32)), (.int (0 : Int32)), (.int (0 : Int32))] (.int 0) := by exact Bd
        clear Bd
        replace Vu := Vu.other Wd6 (Or.inl nud)
        replace Cu := Cu.other Wd6 (Or.inl nud)
        replace Xu := Xu.wr Wd6
        replace T0 := ext_wr T0 Wd6 gd
        clear Wd6
        refine Run.pure hK (seg := [(740, .dup, 1), (741, .bipush 7, 2), (743, .bipush 112, 2)]) (by decide +kernel) (pc' := 745) (L' := #[.val (.int i0), .val (.int i1), .val (.int i2), .val (.int a), .val (.int b), .val (.int x), .val (.int y), .val (.int g1), .val (.int g2), .val (.ref sC), .val (.ref sP), .unset, .unset, .unset]) (S' := [(.int (112 : Int32)), (.int (7 : Int32)), (.ref ad), (.ref ad), (.ref au), (.ref au)]) rfl ?_
        refine Run.cst hK Ad ⟨by decide, by decide⟩ gdz (by decide +kernel) (fun hd7 Wd7 Bd => ?_)
        replace Ad : Arv Z hd7 ad kd .char (42 : Int32) [(.int (105 : Int32)), (.int (116 : Int32)), (.int (115 : Int32)), (.int (32 : Int32)), (.int (109 : Int32)), (.int (97 : Int32)), (.int (112 : Int32)), (.int (112 : Int32)), (.int (0 : Int32)), (.int (0 : Int32)), (.int (0 : Int32)), (.int (0 : Int32)), (.int (0 : Int32)), (.int (0 : Int32)), (.int (0 : Int32)), (.int (0 : Int32)), (.int (0 : Int32)), (.int (0 : Int32)), (.int (0 : Int32)), (.int (0 : Int32)), (.int (0 : Int32)), (.int (0 : Int32)), (.int (0 : Int32)), (.int (0 : Int32)), (.int (0 : Int32)), (.int (0 : Int32)), (.int (0 : Int32)), (.int (0 : Int32)), (.int (0 : Int32)), (.int (0 : Int32)), (.int (0 : Int32)), (.int (0 : Int32)), (.int (0 : Int32)), (.int (0 : Int32)), (.int (0 : Int32)), (.int (0 : Int32)), (.int (0 : Int32)), (.int (0 : Int32)), (.int (0 : Int32)), (.int (0 : Int32)), (.int (0 : Int32)), (.int (0 : Int32))] (.int 0) := by exact Bd
        clear Bd
        replace Vu := Vu.other Wd7 (Or.inl nud)
        replace Cu := Cu.other Wd7 (Or.inl nud)
        replace Xu := Xu.wr Wd7
        replace T0 := ext_wr T0 Wd7 gd
        clear Wd7
        refine Run.pure hK (seg := [(746, .dup, 1), (747, .bipush 8, 2), (749, .bipush 101, 2)]) (by decide +kernel) (pc' := 751) (L' := #[.val (.int i0), .val (.int i1), .val (.int i2), .val (.int a), .val (.int b), .val (.int x), .val (.int y), .val (.int g1), .val (.int g2), .val (.ref sC), .val (.ref sP), .unset, .unset, .unset]) (S' := [(.int (101 : Int32)), (.int (8 : Int32)), (.ref ad), (.ref ad), (.ref au), (.ref au)]) rfl ?_
        refine Run.cst hK Ad ⟨by decide, by decide⟩ gdz (by decide +kernel) (fun hd8 Wd8 Bd => ?_)
        replace Ad : Arv Z hd8 ad kd .char (42 : Int32) [(.int (105 : Int32)), (.int (116 : Int32)), (.int (115 : Int32)), (.int (32 : Int32)), (.int (109 : Int32)), (.int (97 : Int32)), (.int (112 : Int32)), (.int (112 : Int32)), (.int (101 : Int32)), (.int (0 : Int32)), (.int (0 : Int32)), (.int (0 : Int32)), (.int (0 : Int32)), (.int (0 : Int32)), (.int (0 : Int32)), (.int (0 : Int32)), (.int (0 : Int32)), (.int (0 : Int32)), (.int (0 : Int32)), (.int (0 : Int32)), (.int (0 : Int32)), (.int (0 : Int32)), (.int (0 : Int32)), (.int (0 : Int32)), (.int (0 : Int32)), (.int (0 : Int32)), (.int (0 : Int32)), (.int (0 : Int32)), (.int (0 : Int32)), (.int (0 : Int32)), (.int (0 : Int32)), (.int (0 : Int32)), (.int (0 : Int32)), (.int (0 : Int32)), (.int (0 : Int32)), (.int (0 : Int32)), (.int (0 : Int32)), (.int (0 : Int32)), (.int (0 : Int32)), (.int (0 : Int32)), (.int (0 : Int32)), (.int (0 : Int32))] (.int 0) := by exact Bd
        clear Bd
        replace Vu := Vu.other Wd8 (Or.inl nud)
        replace Cu := Cu.other Wd8 (Or.inl nud)
        replace Xu := Xu.wr Wd8
        replace T0 := ext_wr T0 Wd8 gd
        clear Wd8
        refine Run.pure hK (seg := [(752, .dup, 1), (753, .bipush 9, 2), (755, .bipush 100, 2)]) (by decide +kernel) (pc' := 757) (L' := #[.val (.int i0), .val (.int i1), .val (.int i2), .val (.int a), .val (.int b), .val (.int x), .val (.int y), .val (.int g1), .val (.int g2), .val (.ref sC), .val (.ref sP), .unset, .unset, .unset]) (S' := [(.int (100 : Int32)), (.int (9 : Int32)), (.ref ad), (.ref ad), (.ref au), (.ref au)]) rfl ?_
        refine Run.cst hK Ad ⟨by decide, by decide⟩ gdz (by decide +kernel) (fun hd9 Wd9 Bd => ?_)
        replace Ad : Arv Z hd9 ad kd .char (42 : Int32) [(.int (105 : Int32)), (.int (116 : Int32)), (.int (115 : Int32)), (.int (32 : Int32)), (.int (109 : Int32)), (.int (97 : Int32)), (.int (112 : Int32)), (.int (112 : Int32)), (.int (101 : Int32)), (.int (100 : Int32)), (.int (0 : Int32)), (.int (0 : Int32)), (.int (0 : Int32)), (.int (0 : Int32)), (.int (0 : Int32)), (.int (0 : Int32)), (.int (0 : Int32)), (.int (0 : Int32)), (.int (0 : Int32)), (.int (0 : Int32)), (.int (0 : Int32)), (.int (0 : Int32)), (.int (0 : Int32)), (.int (0 : Int32)), (.int (0 : Int32)), (.int (0 : Int32)), (.int (0 : Int32)), (.int (0 : Int32)), (.int (0 : Int32)), (.int (0 : Int32)), (.int (0 : Int32)), (.int (0 : Int32)), (.int (0 : Int32)), (.int (0 : Int32)), (.int (0 : Int32)), (.int (0 : Int32)), (.int (0 : Int32)), (.int (0 : Int32)), (.int (0 : Int32)), (.int (0 : Int32)), (.int (0 : Int32)), (.int (0 : Int32))] (.int 0) := by exact Bd
        clear Bd
        replace Vu := Vu.other Wd9 (Or.inl nud)
        replace Cu := Cu.other Wd9 (Or.inl nud)
        replace Xu := Xu.wr Wd9
        replace T0 := ext_wr T0 Wd9 gd
        clear Wd9
        refine Run.pure hK (seg := [(758, .dup, 1), (759, .bipush 10, 2), (761, .bipush 32, 2)]) (by decide +kernel) (pc' := 763) (L' := #[.val (.int i0), .val (.int i1), .val (.int i2), .val (.int a), .val (.int b), .val (.int x), .val (.int y), .val (.int g1), .val (.int g2), .val (.ref sC), .val (.ref sP), .unset, .unset, .unset]) (S' := [(.int (32 : Int32)), (.int (10 : Int32)), (.ref ad), (.ref ad), (.ref au), (.ref au)]) rfl ?_
        refine Run.cst hK Ad ⟨by decide, by decide⟩ gdz (by decide +kernel) (fun hd10 Wd10 Bd => ?_)
        replace Ad : Arv Z hd10 ad kd .char (42 : Int32) [(.int (105 : Int32)), (.int (116 : Int32)), (.int (115 : Int32)), (.int (32 : Int32)), (.int (109 : Int32)), (.int (97 : Int32)), (.int (112 : Int32)), (.int (112 : Int32)), (.int (101 : Int32)), (.int (100 : Int32)), (.int (32 : Int32)), (.int (0 : Int32)), (.int (0 : Int32)), (.int (0 : Int32)), (.int (0 : Int32)), (.int (0 : Int32)), (.int (0 : Int32)), (.int (0 : Int32)), (.int (0 : Int32)), (.int (0 : Int32)), (.int (0 : Int32)), (.int (0 : Int32)), (.int (0 : Int32)), (.int (0 : Int32)), (.int (0 : Int32)), (.int (0 : Int32)), (.int (0 : Int32)), (.int (0 : Int32)), (.int (0 : Int32)), (.int (0 : Int32)), (.int (0 : Int32)), (.int (0 : Int32)), (.int (0 : Int32)), (.int (0 : Int32)), (.int (0 : Int32)), (.int (0 : Int32)), (.int (0 : Int32)), (.int (0 : Int32)), (.int (0 : Int32)), (.int (0 : Int32)), (.int (0 : Int32)), (.int (0 : Int32))] (.int 0) := by exact Bd
        clear Bd
        replace Vu := Vu.other Wd10 (Or.inl nud)
        replace Cu := Cu.other Wd10 (Or.inl nud)
        replace Xu := Xu.wr Wd10
        replace T0 := ext_wr T0 Wd10 gd
        clear Wd10
        refine Run.pure hK (seg := [(764, .dup, 1), (765, .bipush 11, 2), (767, .bipush 112, 2)]) (by decide +kernel) (pc' := 769) (L' := #[.val (.int i0), .val (.int i1), .val (.int i2), .val (.int a), .val (.int b), .val (.int x), .val (.int y), .val (.int g1), .val (.int g2), .val (.ref sC), .val (.ref sP), .unset, .unset, .unset]) (S' := [(.int (112 : Int32)), (.int (11 : Int32)), (.ref ad), (.ref ad), (.ref au), (.ref au)]) rfl ?_
        refine Run.cst hK Ad ⟨by decide, by decide⟩ gdz (by decide +kernel) (fun hd11 Wd11 Bd => ?_)
        replace Ad : Arv Z hd11 ad kd .char (42 : Int32) [(.int (105 : Int32)), (.int (116 : Int32)), (.int (115 : Int32)), (.int (32 : Int32)), (.int (109 : Int32)), (.int (97 : Int32)), (.int (112 : Int32)), (.int (112 : Int32)), (.int (101 : Int32)), (.int (100 : Int32)), (.int (32 : Int32)), (.int (112 : Int32)), (.int (0 : Int32)), (.int (0 : Int32)), (.int (0 : Int32)), (.int (0 : Int32)), (.int (0 : Int32)), (.int (0 : Int32)), (.int (0 : Int32)), (.int (0 : Int32)), (.int (0 : Int32)), (.int (0 : Int32)), (.int (0 : Int32)), (.int (0 : Int32)), (.int (0 : Int32)), (.int (0 : Int32)), (.int (0 : Int32)), (.int (0 : Int32)), (.int (0 : Int32)), (.int (0 : Int32)), (.int (0 : Int32)), (.int (0 : Int32)), (.int (0 : Int32)), (.int (0 : Int32)), (.int (0 : Int32)), (.int (0 : Int32)), (.int (0 : Int32)), (.int (0 : Int32)), (.int (0 : Int32)), (.int (0 : Int32)), (.int (0 : Int32)), (.int (0 : Int32))] (.int 0) := by exact Bd
        clear Bd
        replace Vu := Vu.other Wd11 (Or.inl nud)
        replace Cu := Cu.other Wd11 (Or.inl nud)
        replace Xu := Xu.wr Wd11
        replace T0 := ext_wr T0 Wd11 gd
        clear Wd11
        refine Run.pure hK (seg := [(770, .dup, 1), (771, .bipush 12, 2), (773, .bipush 97, 2)]) (by decide +kernel) (pc' := 775) (L' := #[.val (.int i0), .val (.int i1), .val (.int i2), .val (.int a), .val (.int b), .val (.int x), .val (.int y), .val (.int g1), .val (.int g2), .val (.ref sC), .val (.ref sP), .unset, .unset, .unset]) (S' := [(.int (97 : Int32)), (.int (12 : Int32)), (.ref ad), (.ref ad), (.ref au), (.ref au)]) rfl ?_
        refine Run.cst hK Ad ⟨by decide, by decide⟩ gdz (by decide +kernel) (fun hd12 Wd12 Bd => ?_)
        replace Ad : Arv Z hd12 ad kd .char (42 : Int32) [(.int (105 : Int32)), (.int (116 : Int32)), (.int (115 : Int32)), (.int (32 : Int32)), (.int (109 : Int32)), (.int (97 : Int32)), (.int (112 : Int32)), (.int (112 : Int32)), (.int (101 : Int32)), (.int (100 : Int32)), (.int (32 : Int32)), (.int (112 : Int32)), (.int (97 : Int32)), (.int (0 : Int32)), (.int (0 : Int32)), (.int (0 : Int32)), (.int (0 : Int32)), (.int (0 : Int32)), (.int (0 : Int32)), (.int (0 : Int32)), (.int (0 : Int32)), (.int (0 : Int32)), (.int (0 : Int32)), (.int (0 : Int32)), (.int (0 : Int32)), (.int (0 : Int32)), (.int (0 : Int32)), (.int (0 : Int32)), (.int (0 : Int32)), (.int (0 : Int32)), (.int (0 : Int32)), (.int (0 : Int32)), (.int (0 : Int32)), (.int (0 : Int32)), (.int (0 : Int32)), (.int (0 : Int32)), (.int (0 : Int32)), (.int (0 : Int32)), (.int (0 : Int32)), (.int (0 : Int32)), (.int (0 : Int32)), (.int (0 : Int32))] (.int 0) := by exact Bd
        clear Bd
        replace Vu := Vu.other Wd12 (Or.inl nud)
        replace Cu := Cu.other Wd12 (Or.inl nud)
        replace Xu := Xu.wr Wd12
        replace T0 := ext_wr T0 Wd12 gd
        clear Wd12
        refine Run.pure hK (seg := [(776, .dup, 1), (777, .bipush 13, 2), (779, .bipush 116, 2)]) (by decide +kernel) (pc' := 781) (L' := #[.val (.int i0), .val (.int i1), .val (.int i2), .val (.int a), .val (.int b), .val (.int x), .val (.int y), .val (.int g1), .val (.int g2), .val (.ref sC), .val (.ref sP), .unset, .unset, .unset]) (S' := [(.int (116 : Int32)), (.int (13 : Int32)), (.ref ad), (.ref ad), (.ref au), (.ref au)]) rfl ?_
        refine Run.cst hK Ad ⟨by decide, by decide⟩ gdz (by decide +kernel) (fun hd13 Wd13 Bd => ?_)
        replace Ad : Arv Z hd13 ad kd .char (42 : Int32) [(.int (105 : Int32)), (.int (116 : Int32)), (.int (115 : Int32)), (.int (32 : Int32)), (.int (109 : Int32)), (.int (97 : Int32)), (.int (112 : Int32)), (.int (112 : Int32)), (.int (101 : Int32)), (.int (100 : Int32)), (.int (32 : Int32)), (.int (112 : Int32)), (.int (97 : Int32)), (.int (116 : Int32)), (.int (0 : Int32)), (.int (0 : Int32)), (.int (0 : Int32)), (.int (0 : Int32)), (.int (0 : Int32)), (.int (0 : Int32)), (.int (0 : Int32)), (.int (0 : Int32)), (.int (0 : Int32)), (.int (0 : Int32)), (.int (0 : Int32)), (.int (0 : Int32)), (.int (0 : Int32)), (.int (0 : Int32)), (.int (0 : Int32)), (.int (0 : Int32)), (.int (0 : Int32)), (.int (0 : Int32)), (.int (0 : Int32)), (.int (0 : Int32)), (.int (0 : Int32)), (.int (0 : Int32)), (.int (0 : Int32)), (.int (0 : Int32)), (.int (0 : Int32)), (.int (0 : Int32)), (.int (0 : Int32)), (.int (0 : Int32))] (.int 0) := by exact Bd
        clear Bd
        replace Vu := Vu.other Wd13 (Or.inl nud)
        replace Cu := Cu.other Wd13 (Or.inl nud)
        replace Xu := Xu.wr Wd13
        replace T0 := ext_wr T0 Wd13 gd
        clear Wd13
        refine Run.pure hK (seg := [(782, .dup, 1), (783, .bipush 14, 2), (785, .bipush 104, 2)]) (by decide +kernel) (pc' := 787) (L' := #[.val (.int i0), .val (.int i1), .val (.int i2), .val (.int a), .val (.int b), .val (.int x), .val (.int y), .val (.int g1), .val (.int g2), .val (.ref sC), .val (.ref sP), .unset, .unset, .unset]) (S' := [(.int (104 : Int32)), (.int (14 : Int32)), (.ref ad), (.ref ad), (.ref au), (.ref au)]) rfl ?_
        refine Run.cst hK Ad ⟨by decide, by decide⟩ gdz (by decide +kernel) (fun hd14 Wd14 Bd => ?_)
        replace Ad : Arv Z hd14 ad kd .char (42 : Int32) [(.int (105 : Int32)), (.int (116 : Int32)), (.int (115 : Int32)), (.int (32 : Int32)), (.int (109 : Int32)), (.int (97 : Int32)), (.int (112 : Int32)), (.int (112 : Int32)), (.int (101 : Int32)), (.int (100 : Int32)), (.int (32 : Int32)), (.int (112 : Int32)), (.int (97 : Int32)), (.int (116 : Int32)), (.int (104 : Int32)), (.int (0 : Int32)), (.int (0 : Int32)), (.int (0 : Int32)), (.int (0 : Int32)), (.int (0 : Int32)), (.int (0 : Int32)), (.int (0 : Int32)), (.int (0 : Int32)), (.int (0 : Int32)), (.int (0 : Int32)), (.int (0 : Int32)), (.int (0 : Int32)), (.int (0 : Int32)), (.int (0 : Int32)), (.int (0 : Int32)), (.int (0 : Int32)), (.int (0 : Int32)), (.int (0 : Int32)), (.int (0 : Int32)), (.int (0 : Int32)), (.int (0 : Int32)), (.int (0 : Int32)), (.int (0 : Int32)), (.int (0 : Int32)), (.int (0 : Int32)), (.int (0 : Int32)), (.int (0 : Int32))] (.int 0) := by exact Bd
        clear Bd
        replace Vu := Vu.other Wd14 (Or.inl nud)
        replace Cu := Cu.other Wd14 (Or.inl nud)
        replace Xu := Xu.wr Wd14
        replace T0 := ext_wr T0 Wd14 gd
        clear Wd14
        refine Run.pure hK (seg := [(788, .dup, 1), (789, .bipush 15, 2), (791, .bipush 32, 2)]) (by decide +kernel) (pc' := 793) (L' := #[.val (.int i0), .val (.int i1), .val (.int i2), .val (.int a), .val (.int b), .val (.int x), .val (.int y), .val (.int g1), .val (.int g2), .val (.ref sC), .val (.ref sP), .unset, .unset, .unset]) (S' := [(.int (32 : Int32)), (.int (15 : Int32)), (.ref ad), (.ref ad), (.ref au), (.ref au)]) rfl ?_
        refine Run.cst hK Ad ⟨by decide, by decide⟩ gdz (by decide +kernel) (fun hd15 Wd15 Bd => ?_)
        replace Ad : Arv Z hd15 ad kd .char (42 : Int32) [(.int (105 : Int32)), (.int (116 : Int32)), (.int (115 : Int32)), (.int (32 : Int32)), (.int (109 : Int32)), (.int (97 : Int32)), (.int (112 : Int32)), (.int (112 : Int32)), (.int (101 : Int32)), (.int (100 : Int32)), (.int (32 : Int32)), (.int (112 : Int32)), (.int (97 : Int32)), (.int (116 : Int32)), (.int (104 : Int32)), (.int (32 : Int32)), (.int (0 : Int32)), (.int (0 : Int32)), (.int (0 : Int32)), (.int (0 : Int32)), (.int (0 : Int32)), (.int (0 : Int32)), (.int (0 : Int32)), (.int (0 : Int32)), (.int (0 : Int32)), (.int (0 : Int32)), (.int (0 : Int32)), (.int (0 : Int32)), (.int (0 : Int32)), (.int (0 : Int32)), (.int (0 : Int32)), (.int (0 : Int32)), (.int (0 : Int32)), (.int (0 : Int32)), (.int (0 : Int32)), (.int (0 : Int32)), (.int (0 : Int32)), (.int (0 : Int32)), (.int (0 : Int32)), (.int (0 : Int32)), (.int (0 : Int32)), (.int (0 : Int32))] (.int 0) := by exact Bd
        clear Bd
        replace Vu := Vu.other Wd15 (Or.inl nud)
        replace Cu := Cu.other Wd15 (Or.inl nud)
        replace Xu := Xu.wr Wd15
        replace T0 := ext_wr T0 Wd15 gd
        clear Wd15
        refine Run.pure hK (seg := [(794, .dup, 1), (795, .bipush 16, 2), (797, .bipush 34, 2)]) (by decide +kernel) (pc' := 799) (L' := #[.val (.int i0), .val (.int i1), .val (.int i2), .val (.int a), .val (.int b), .val (.int x), .val (.int y), .val (.int g1), .val (.int g2), .val (.ref sC), .val (.ref sP), .unset, .unset, .unset]) (S' := [(.int (34 : Int32)), (.int (16 : Int32)), (.ref ad), (.ref ad), (.ref au), (.ref au)]) rfl ?_
        refine Run.cst hK Ad ⟨by decide, by decide⟩ gdz (by decide +kernel) (fun hd16 Wd16 Bd => ?_)
        replace Ad : Arv Z hd16 ad kd .char (42 : Int32) [(.int (105 : Int32)), (.int (116 : Int32)), (.int (115 : Int32)), (.int (32 : Int32)), (.int (109 : Int32)), (.int (97 : Int32)), (.int (112 : Int32)), (.int (112 : Int32)), (.int (101 : Int32)), (.int (100 : Int32)), (.int (32 : Int32)), (.int (112 : Int32)), (.int (97 : Int32)), (.int (116 : Int32)), (.int (104 : Int32)), (.int (32 : Int32)), (.int (34 : Int32)), (.int (0 : Int32)), (.int (0 : Int32)), (.int (0 : Int32)), (.int (0 : Int32)), (.int (0 : Int32)), (.int (0 : Int32)), (.int (0 : Int32)), (.int (0 : Int32)), (.int (0 : Int32)), (.int (0 : Int32)), (.int (0 : Int32)), (.int (0 : Int32)), (.int (0 : Int32)), (.int (0 : Int32)), (.int (0 : Int32)), (.int (0 : Int32)), (.int (0 : Int32)), (.int (0 : Int32)), (.int (0 : Int32)), (.int (0 : Int32)), (.int (0 : Int32)), (.int (0 : Int32)), (.int (0 : Int32)), (.int (0 : Int32)), (.int (0 : Int32))] (.int 0) := by exact Bd
        clear Bd
        replace Vu := Vu.other Wd16 (Or.inl nud)
        replace Cu := Cu.other Wd16 (Or.inl nud)
        replace Xu := Xu.wr Wd16
        replace T0 := ext_wr T0 Wd16 gd
        clear Wd16
        refine Run.pure hK (seg := [(800, .dup, 1), (801, .bipush 17, 2), (803, .iload 5, 2)]) (by decide +kernel) (pc' := 805) (L' := #[.val (.int i0), .val (.int i1), .val (.int i2), .val (.int a), .val (.int b), .val (.int x), .val (.int y), .val (.int g1), .val (.int g2), .val (.ref sC), .val (.ref sP), .unset, .unset, .unset]) (S' := [(.int x), (.int (17 : Int32)), (.ref ad), (.ref ad), (.ref au), (.ref au)]) rfl ?_
        refine Run.cst hK Ad ⟨by decide, by decide⟩ gdz (by decide +kernel) (fun hd17 Wd17 Bd => ?_)
        replace Ad : Arv Z hd17 ad kd .char (42 : Int32) [(.int (105 : Int32)), (.int (116 : Int32)), (.int (115 : Int32)), (.int (32 : Int32)), (.int (109 : Int32)), (.int (97 : Int32)), (.int (112 : Int32)), (.int (112 : Int32)), (.int (101 : Int32)), (.int (100 : Int32)), (.int (32 : Int32)), (.int (112 : Int32)), (.int (97 : Int32)), (.int (116 : Int32)), (.int (104 : Int32)), (.int (32 : Int32)), (.int (34 : Int32)), (.int x), (.int (0 : Int32)), (.int (0 : Int32)), (.int (0 : Int32)), (.int (0 : Int32)), (.int (0 : Int32)), (.int (0 : Int32)), (.int (0 : Int32)), (.int (0 : Int32)), (.int (0 : Int32)), (.int (0 : Int32)), (.int (0 : Int32)), (.int (0 : Int32)), (.int (0 : Int32)), (.int (0 : Int32)), (.int (0 : Int32)), (.int (0 : Int32)), (.int (0 : Int32)), (.int (0 : Int32)), (.int (0 : Int32)), (.int (0 : Int32)), (.int (0 : Int32)), (.int (0 : Int32)), (.int (0 : Int32)), (.int (0 : Int32))] (.int 0) := by rw [nc b_x] at Bd; exact Bd
        clear Bd
        replace Vu := Vu.other Wd17 (Or.inl nud)
        replace Cu := Cu.other Wd17 (Or.inl nud)
        replace Xu := Xu.wr Wd17
        replace T0 := ext_wr T0 Wd17 gd
        clear Wd17
        refine Run.pure hK (seg := [(806, .dup, 1), (807, .bipush 18, 2), (809, .iload 6, 2)]) (by decide +kernel) (pc' := 811) (L' := #[.val (.int i0), .val (.int i1), .val (.int i2), .val (.int a), .val (.int b), .val (.int x), .val (.int y), .val (.int g1), .val (.int g2), .val (.ref sC), .val (.ref sP), .unset, .unset, .unset]) (S' := [(.int y), (.int (18 : Int32)), (.ref ad), (.ref ad), (.ref au), (.ref au)]) rfl ?_
        refine Run.cst hK Ad ⟨by decide, by decide⟩ gdz (by decide +kernel) (fun hd18 Wd18 Bd => ?_)
        replace Ad : Arv Z hd18 ad kd .char (42 : Int32) [(.int (105 : Int32)), (.int (116 : Int32)), (.int (115 : Int32)), (.int (32 : Int32)), (.int (109 : Int32)), (.int (97 : Int32)), (.int (112 : Int32)), (.int (112 : Int32)), (.int (101 : Int32)), (.int (100 : Int32)), (.int (32 : Int32)), (.int (112 : Int32)), (.int (97 : Int32)), (.int (116 : Int32)), (.int (104 : Int32)), (.int (32 : Int32)), (.int (34 : Int32)), (.int x), (.int y), (.int (0 : Int32)), (.int (0 : Int32)), (.int (0 : Int32)), (.int (0 : Int32)), (.int (0 : Int32)), (.int (0 : Int32)), (.int (0 : Int32)), (.int (0 : Int32)), (.int (0 : Int32)), (.int (0 : Int32)), (.int (0 : Int32)), (.int (0 : Int32)), (.int (0 : Int32)), (.int (0 : Int32)), (.int (0 : Int32)), (.int (0 : Int32)), (.int (0 : Int32)), (.int (0 : Int32)), (.int (0 : Int32)), (.int (0 : Int32)), (.int (0 : Int32)), (.int (0 : Int32)), (.int (0 : Int32))] (.int 0) := by rw [nc b_y] at Bd; exact Bd
        clear Bd
        replace Vu := Vu.other Wd18 (Or.inl nud)
        replace Cu := Cu.other Wd18 (Or.inl nud)
        replace Xu := Xu.wr Wd18
        replace T0 := ext_wr T0 Wd18 gd
        clear Wd18
        refine Run.pure hK (seg := [(812, .dup, 1), (813, .bipush 19, 2), (815, .bipush 34, 2)]) (by decide +kernel) (pc' := 817) (L' := #[.val (.int i0), .val (.int i1), .val (.int i2), .val (.int a), .val (.int b), .val (.int x), .val (.int y), .val (.int g1), .val (.int g2), .val (.ref sC), .val (.ref sP), .unset, .unset, .unset]) (S' := [(.int (34 : Int32)), (.int (19 : Int32)), (.ref ad), (.ref ad), (.ref au), (.ref au)]) rfl ?_
        refine Run.cst hK Ad ⟨by decide, by decide⟩ gdz (by decide +kernel) (fun hd19 Wd19 Bd => ?_)
        replace Ad : Arv Z hd19 ad kd .char (42 : Int32) [(.int (105 : Int32)), (.int (116 : Int32)), (.int (115 : Int32)), (.int (32 : Int32)), (.int (109 : Int32)), (.int (97 : Int32)), (.int (112 : Int32)), (.int (112 : Int32)), (.int (101 : Int32)), (.int (100 : Int32)), (.int (32 : Int32)), (.int (112 : Int32)), (.int (97 : Int32)), (.int (116 : Int32)), (.int (104 : Int32)), (.int (32 : Int32)), (.int (34 : Int32)), (.int x), (.int y), (.int (34 : Int32)), (.int (0 : Int32)), (.int (0 : Int32)), (.int (0 : Int32)), (.int (0 : Int32)), (.int (0 : Int32)), (.int (0 : Int32)), (.int (0 : Int32)), (.int (0 : Int32)), (.int (0 : Int32)), (.int (0 : Int32)), (.int (0 : Int32)), (.int (0 : Int32)), (.int (0 : Int32)), (.int (0 : Int32)), (.int (0 : Int32)), (.int (0 : Int32)), (.int (0 : Int32)), (.int (0 : Int32)), (.int (0 : Int32)), (.int (0 : Int32)), (.int (0 : Int32)), (.int (0 : Int32))] (.int 0) := by exact Bd
        clear Bd
        replace Vu := Vu.other Wd19 (Or.inl nud)
        replace Cu := Cu.other Wd19 (Or.inl nud)
        replace Xu := Xu.wr Wd19
        replace T0 := ext_wr T0 Wd19 gd
        clear Wd19
        refine Run.pure hK (seg := [(818, .dup, 1), (819, .bipush 20, 2), (821, .bipush 32, 2)]) (by decide +kernel) (pc' := 823) (L' := #[.val (.int i0), .val (.int i1), .val (.int i2), .val (.int a), .val (.int b), .val (.int x), .val (.int y), .val (.int g1), .val (.int g2), .val (.ref sC), .val (.ref sP), .unset, .unset, .unset]) (S' := [(.int (32 : Int32)), (.int (20 : Int32)), (.ref ad), (.ref ad), (.ref au), (.ref au)]) rfl ?_
        refine Run.cst hK Ad ⟨by decide, by decide⟩ gdz (by decide +kernel) (fun hd20 Wd20 Bd => ?_)
        replace Ad : Arv Z hd20 ad kd .char (42 : Int32) [(.int (105 : Int32)), (.int (116 : Int32)), (.int (115 : Int32)), (.int (32 : Int32)), (.int (109 : Int32)), (.int (97 : Int32)), (.int (112 : Int32)), (.int (112 : Int32)), (.int (101 : Int32)), (.int (100 : Int32)), (.int (32 : Int32)), (.int (112 : Int32)), (.int (97 : Int32)), (.int (116 : Int32)), (.int (104 : Int32)), (.int (32 : Int32)), (.int (34 : Int32)), (.int x), (.int y), (.int (34 : Int32)), (.int (32 : Int32)), (.int (0 : Int32)), (.int (0 : Int32)), (.int (0 : Int32)), (.int (0 : Int32)), (.int (0 : Int32)), (.int (0 : Int32)), (.int (0 : Int32)), (.int (0 : Int32)), (.int (0 : Int32)), (.int (0 : Int32)), (.int (0 : Int32)), (.int (0 : Int32)), (.int (0 : Int32)), (.int (0 : Int32)), (.int (0 : Int32)), (.int (0 : Int32)), (.int (0 : Int32)), (.int (0 : Int32)), (.int (0 : Int32)), (.int (0 : Int32)), (.int (0 : Int32))] (.int 0) := by exact Bd
        clear Bd
        replace Vu := Vu.other Wd20 (Or.inl nud)
        replace Cu := Cu.other Wd20 (Or.inl nud)
        replace Xu := Xu.wr Wd20
        replace T0 := ext_wr T0 Wd20 gd
        clear Wd20
        refine Run.pure hK (seg := [(824, .dup, 1), (825, .bipush 21, 2), (827, .bipush 100, 2)]) (by decide +kernel) (pc' := 829) (L' := #[.val (.int i0), .val (.int i1), .val (.int i2), .val (.int a), .val (.int b), .val (.int x), .val (.int y), .val (.int g1), .val (.int g2), .val (.ref sC), .val (.ref sP), .unset, .unset, .unset]) (S' := [(.int (100 : Int32)), (.int (21 : Int32)), (.ref ad), (.ref ad), (.ref au), (.ref au)]) rfl ?_
        refine Run.cst hK Ad ⟨by decide, by decide⟩ gdz (by decide +kernel) (fun hd21 Wd21 Bd => ?_)
        replace Ad : Arv Z hd21 ad kd .char (42 : Int32) [(.int (105 : Int32)), (.int (116 : Int32)), (.int (115 : Int32)), (.int (32 : Int32)), (.int (109 : Int32)), (.int (97 : Int32)), (.int (112 : Int32)), (.int (112 : Int32)), (.int (101 : Int32)), (.int (100 : Int32)), (.int (32 : Int32)), (.int (112 : Int32)), (.int (97 : Int32)), (.int (116 : Int32)), (.int (104 : Int32)), (.int (32 : Int32)), (.int (34 : Int32)), (.int x), (.int y), (.int (34 : Int32)), (.int (32 : Int32)), (.int (100 : Int32)), (.int (0 : Int32)), (.int (0 : Int32)), (.int (0 : Int32)), (.int (0 : Int32)), (.int (0 : Int32)), (.int (0 : Int32)), (.int (0 : Int32)), (.int (0 : Int32)), (.int (0 : Int32)), (.int (0 : Int32)), (.int (0 : Int32)), (.int (0 : Int32)), (.int (0 : Int32)), (.int (0 : Int32)), (.int (0 : Int32)), (.int (0 : Int32)), (.int (0 : Int32)), (.int (0 : Int32)), (.int (0 : Int32)), (.int (0 : Int32))] (.int 0) := by exact Bd
        clear Bd
        replace Vu := Vu.other Wd21 (Or.inl nud)
        replace Cu := Cu.other Wd21 (Or.inl nud)
        replace Xu := Xu.wr Wd21
        replace T0 := ext_wr T0 Wd21 gd
        clear Wd21
        refine Run.pure hK (seg := [(830, .dup, 1), (831, .bipush 22, 2), (833, .bipush 111, 2)]) (by decide +kernel) (pc' := 835) (L' := #[.val (.int i0), .val (.int i1), .val (.int i2), .val (.int a), .val (.int b), .val (.int x), .val (.int y), .val (.int g1), .val (.int g2), .val (.ref sC), .val (.ref sP), .unset, .unset, .unset]) (S' := [(.int (111 : Int32)), (.int (22 : Int32)), (.ref ad), (.ref ad), (.ref au), (.ref au)]) rfl ?_
        refine Run.cst hK Ad ⟨by decide, by decide⟩ gdz (by decide +kernel) (fun hd22 Wd22 Bd => ?_)
        replace Ad : Arv Z hd22 ad kd .char (42 : Int32) [(.int (105 : Int32)), (.int (116 : Int32)), (.int (115 : Int32)), (.int (32 : Int32)), (.int (109 : Int32)), (.int (97 : Int32)), (.int (112 : Int32)), (.int (112 : Int32)), (.int (101 : Int32)), (.int (100 : Int32)), (.int (32 : Int32)), (.int (112 : Int32)), (.int (97 : Int32)), (.int (116 : Int32)), (.int (104 : Int32)), (.int (32 : Int32)), (.int (34 : Int32)), (.int x), (.int y), (.int (34 : Int32)), (.int (32 : Int32)), (.int (100 : Int32)), (.int (111 : Int32)), (.int (0 : Int32)), (.int (0 : Int32)), (.int (0 : Int32)), (.int (0 : Int32)), (.int (0 : Int32)), (.int (0 : Int32)), (.int (0 : Int32)), (.int (0 : Int32)), (.int (0 : Int32)), (.int (0 : Int32)), (.int (0 : Int32)), (.int (0 : Int32)), (.int (0 : Int32)), (.int (0 : Int32)), (.int (0 : Int32)), (.int (0 : Int32)), (.int (0 : Int32)), (.int (0 : Int32)), (.int (0 : Int32))] (.int 0) := by exact Bd
        clear Bd
        replace Vu := Vu.other Wd22 (Or.inl nud)
        replace Cu := Cu.other Wd22 (Or.inl nud)
        replace Xu := Xu.wr Wd22
        replace T0 := ext_wr T0 Wd22 gd
        clear Wd22
        refine Run.pure hK (seg := [(836, .dup, 1), (837, .bipush 23, 2), (839, .bipush 101, 2)]) (by decide +kernel) (pc' := 841) (L' := #[.val (.int i0), .val (.int i1), .val (.int i2), .val (.int a), .val (.int b), .val (.int x), .val (.int y), .val (.int g1), .val (.int g2), .val (.ref sC), .val (.ref sP), .unset, .unset, .unset]) (S' := [(.int (101 : Int32)), (.int (23 : Int32)), (.ref ad), (.ref ad), (.ref au), (.ref au)]) rfl ?_
        refine Run.cst hK Ad ⟨by decide, by decide⟩ gdz (by decide +kernel) (fun hd23 Wd23 Bd => ?_)
        replace Ad : Arv Z hd23 ad kd .char (42 : Int32) [(.int (105 : Int32)), (.int (116 : Int32)), (.int (115 : Int32)), (.int (32 : Int32)), (.int (109 : Int32)), (.int (97 : Int32)), (.int (112 : Int32)), (.int (112 : Int32)), (.int (101 : Int32)), (.int (100 : Int32)), (.int (32 : Int32)), (.int (112 : Int32)), (.int (97 : Int32)), (.int (116 : Int32)), (.int (104 : Int32)), (.int (32 : Int32)), (.int (34 : Int32)), (.int x), (.int y), (.int (34 : Int32)), (.int (32 : Int32)), (.int (100 : Int32)), (.int (111 : Int32)), (.int (101 : Int32)), (.int (0 : Int32)), (.int (0 : Int32)), (.int (0 : Int32)), (.int (0 : Int32)), (.int (0 : Int32)), (.int (0 : Int32)), (.int (0 : Int32)), (.int (0 : Int32)), (.int (0 : Int32)), (.int (0 : Int32)), (.int (0 : Int32)), (.int (0 : Int32)), (.int (0 : Int32)), (.int (0 : Int32)), (.int (0 : Int32)), (.int (0 : Int32)), (.int (0 : Int32)), (.int (0 : Int32))] (.int 0) := by exact Bd
        clear Bd
        replace Vu := Vu.other Wd23 (Or.inl nud)
        replace Cu := Cu.other Wd23 (Or.inl nud)
        replace Xu := Xu.wr Wd23
        replace T0 := ext_wr T0 Wd23 gd
        clear Wd23
        refine Run.pure hK (seg := [(842, .dup, 1), (843, .bipush 24, 2), (845, .bipush 115, 2)]) (by decide +kernel) (pc' := 847) (L' := #[.val (.int i0), .val (.int i1), .val (.int i2), .val (.int a), .val (.int b), .val (.int x), .val (.int y), .val (.int g1), .val (.int g2), .val (.ref sC), .val (.ref sP), .unset, .unset, .unset]) (S' := [(.int (115 : Int32)), (.int (24 : Int32)), (.ref ad), (.ref ad), (.ref au), (.ref au)]) rfl ?_
        refine Run.cst hK Ad ⟨by decide, by decide⟩ gdz (by decide +kernel) (fun hd24 Wd24 Bd => ?_)
        replace Ad : Arv Z hd24 ad kd .char (42 : Int32) [(.int (105 : Int32)), (.int (116 : Int32)), (.int (115 : Int32)), (.int (32 : Int32)), (.int (109 : Int32)), (.int (97 : Int32)), (.int (112 : Int32)), (.int (112 : Int32)), (.int (101 : Int32)), (.int (100 : Int32)), (.int (32 : Int32)), (.int (112 : Int32)), (.int (97 : Int32)), (.int (116 : Int32)), (.int (104 : Int32)), (.int (32 : Int32)), (.int (34 : Int32)), (.int x), (.int y), (.int (34 : Int32)), (.int (32 : Int32)), (.int (100 : Int32)), (.int (111 : Int32)), (.int (101 : Int32)), (.int (115 : Int32)), (.int (0 : Int32)), (.int (0 : Int32)), (.int (0 : Int32)), (.int (0 : Int32)), (.int (0 : Int32)), (.int (0 : Int32)), (.int (0 : Int32)), (.int (0 : Int32)), (.int (0 : Int32)), (.int (0 : Int32)), (.int (0 : Int32)), (.int (0 : Int32)), (.int (0 : Int32)), (.int (0 : Int32)), (.int (0 : Int32)), (.int (0 : Int32)), (.int (0 : Int32))] (.int 0) := by exact Bd
        clear Bd
        replace Vu := Vu.other Wd24 (Or.inl nud)
        replace Cu := Cu.other Wd24 (Or.inl nud)
        replace Xu := Xu.wr Wd24
        replace T0 := ext_wr T0 Wd24 gd
        clear Wd24
        refine Run.pure hK (seg := [(848, .dup, 1), (849, .bipush 25, 2), (851, .bipush 32, 2)]) (by decide +kernel) (pc' := 853) (L' := #[.val (.int i0), .val (.int i1), .val (.int i2), .val (.int a), .val (.int b), .val (.int x), .val (.int y), .val (.int g1), .val (.int g2), .val (.ref sC), .val (.ref sP), .unset, .unset, .unset]) (S' := [(.int (32 : Int32)), (.int (25 : Int32)), (.ref ad), (.ref ad), (.ref au), (.ref au)]) rfl ?_
        refine Run.cst hK Ad ⟨by decide, by decide⟩ gdz (by decide +kernel) (fun hd25 Wd25 Bd => ?_)
        replace Ad : Arv Z hd25 ad kd .char (42 : Int32) [(.int (105 : Int32)), (.int (116 : Int32)), (.int (115 : Int32)), (.int (32 : Int32)), (.int (109 : Int32)), (.int (97 : Int32)), (.int (112 : Int32)), (.int (112 : Int32)), (.int (101 : Int32)), (.int (100 : Int32)), (.int (32 : Int32)), (.int (112 : Int32)), (.int (97 : Int32)), (.int (116 : Int32)), (.int (104 : Int32)), (.int (32 : Int32)), (.int (34 : Int32)), (.int x), (.int y), (.int (34 : Int32)), (.int (32 : Int32)), (.int (100 : Int32)), (.int (111 : Int32)), (.int (101 : Int32)), (.int (115 : Int32)), (.int (32 : Int32)), (.int (0 : Int32)), (.int (0 : Int32)), (.int (0 : Int32)), (.int (0 : Int32)), (.int (0 : Int32)), (.int (0 : Int32)), (.int (0 : Int32)), (.int (0 : Int32)), (.int (0 : Int32)), (.int (0 : Int32)), (.int (0 : Int32)), (.int (0 : Int32)), (.int (0 : Int32)), (.int (0 : Int32)), (.int (0 : Int32)), (.int (0 : Int32))] (.int 0) := by exact Bd
        clear Bd
        replace Vu := Vu.other Wd25 (Or.inl nud)
        replace Cu := Cu.other Wd25 (Or.inl nud)
        replace Xu := Xu.wr Wd25
        replace T0 := ext_wr T0 Wd25 gd
        clear Wd25
        refine Run.pure hK (seg := [(854, .dup, 1), (855, .bipush 26, 2), (857, .bipush 110, 2)]) (by decide +kernel) (pc' := 859) (L' := #[.val (.int i0), .val (.int i1), .val (.int i2), .val (.int a), .val (.int b), .val (.int x), .val (.int y), .val (.int g1), .val (.int g2), .val (.ref sC), .val (.ref sP), .unset, .unset, .unset]) (S' := [(.int (110 : Int32)), (.int (26 : Int32)), (.ref ad), (.ref ad), (.ref au), (.ref au)]) rfl ?_
        refine Run.cst hK Ad ⟨by decide, by decide⟩ gdz (by decide +kernel) (fun hd26 Wd26 Bd => ?_)
        replace Ad : Arv Z hd26 ad kd .char (42 : Int32) [(.int (105 : Int32)), (.int (116 : Int32)), (.int (115 : Int32)), (.int (32 : Int32)), (.int (109 : Int32)), (.int (97 : Int32)), (.int (112 : Int32)), (.int (112 : Int32)), (.int (101 : Int32)), (.int (100 : Int32)), (.int (32 : Int32)), (.int (112 : Int32)), (.int (97 : Int32)), (.int (116 : Int32)), (.int (104 : Int32)), (.int (32 : Int32)), (.int (34 : Int32)), (.int x), (.int y), (.int (34 : Int32)), (.int (32 : Int32)), (.int (100 : Int32)), (.int (111 : Int32)), (.int (101 : Int32)), (.int (115 : Int32)), (.int (32 : Int32)), (.int (110 : Int32)), (.int (0 : Int32)), (.int (0 : Int32)), (.int (0 : Int32)), (.int (0 : Int32)), (.int (0 : Int32)), (.int (0 : Int32)), (.int (0 : Int32)), (.int (0 : Int32)), (.int (0 : Int32)), (.int (0 : Int32)), (.int (0 : Int32)), (.int (0 : Int32)), (.int (0 : Int32)), (.int (0 : Int32)), (.int (0 : Int32))] (.int 0) := by exact Bd
        clear Bd
        replace Vu := Vu.other Wd26 (Or.inl nud)
        replace Cu := Cu.other Wd26 (Or.inl nud)
        replace Xu := Xu.wr Wd26
        replace T0 := ext_wr T0 Wd26 gd
        clear Wd26
        refine Run.pure hK (seg := [(860, .dup, 1), (861, .bipush 27, 2), (863, .bipush 111, 2)]) (by decide +kernel) (pc' := 865) (L' := #[.val (.int i0), .val (.int i1), .val (.int i2), .val (.int a), .val (.int b), .val (.int x), .val (.int y), .val (.int g1), .val (.int g2), .val (.ref sC), .val (.ref sP), .unset, .unset, .unset]) (S' := [(.int (111 : Int32)), (.int (27 : Int32)), (.ref ad), (.ref ad), (.ref au), (.ref au)]) rfl ?_
        refine Run.cst hK Ad ⟨by decide, by decide⟩ gdz (by decide +kernel) (fun hd27 Wd27 Bd => ?_)
        replace Ad : Arv Z hd27 ad kd .char (42 : Int32) [(.int (105 : Int32)), (.int (116 : Int32)), (.int (115 : Int32)), (.int (32 : Int32)), (.int (109 : Int32)), (.int (97 : Int32)), (.int (112 : Int32)), (.int (112 : Int32)), (.int (101 : Int32)), (.int (100 : Int32)), (.int (32 : Int32)), (.int (112 : Int32)), (.int (97 : Int32)), (.int (116 : Int32)), (.int (104 : Int32)), (.int (32 : Int32)), (.int (34 : Int32)), (.int x), (.int y), (.int (34 : Int32)), (.int (32 : Int32)), (.int (100 : Int32)), (.int (111 : Int32)), (.int (101 : Int32)), (.int (115 : Int32)), (.int (32 : Int32)), (.int (110 : Int32)), (.int (111 : Int32)), (.int (0 : Int32)), (.int (0 : Int32)), (.int (0 : Int32)), (.int (0 : Int32)), (.int (0 : Int32)), (.int (0 : Int32)), (.int (0 : Int32)), (.int (0 : Int32)), (.int (0 : Int32)), (.int (0 : Int32)), (.int (0 : Int32)), (.int (0 : Int32)), (.int (0 : Int32)), (.int (0 : Int32))] (.int 0) := by exact Bd
        clear Bd
        replace Vu := Vu.other Wd27 (Or.inl nud)
        replace Cu := Cu.other Wd27 (Or.inl nud)
        replace Xu := Xu.wr Wd27
        replace T0 := ext_wr T0 Wd27 gd
        clear Wd27
        refine Run.pure hK (seg := [(866, .dup, 1), (867, .bipush 28, 2), (869, .bipush 116, 2)]) (by decide +kernel) (pc' := 871) (L' := #[.val (.int i0), .val (.int i1), .val (.int i2), .val (.int a), .val (.int b), .val (.int x), .val (.int y), .val (.int g1), .val (.int g2), .val (.ref sC), .val (.ref sP), .unset, .unset, .unset]) (S' := [(.int (116 : Int32)), (.int (28 : Int32)), (.ref ad), (.ref ad), (.ref au), (.ref au)]) rfl ?_
        refine Run.cst hK Ad ⟨by decide, by decide⟩ gdz (by decide +kernel) (fun hd28 Wd28 Bd => ?_)
        replace Ad : Arv Z hd28 ad kd .char (42 : Int32) [(.int (105 : Int32)), (.int (116 : Int32)), (.int (115 : Int32)), (.int (32 : Int32)), (.int (109 : Int32)), (.int (97 : Int32)), (.int (112 : Int32)), (.int (112 : Int32)), (.int (101 : Int32)), (.int (100 : Int32)), (.int (32 : Int32)), (.int (112 : Int32)), (.int (97 : Int32)), (.int (116 : Int32)), (.int (104 : Int32)), (.int (32 : Int32)), (.int (34 : Int32)), (.int x), (.int y), (.int (34 : Int32)), (.int (32 : Int32)), (.int (100 : Int32)), (.int (111 : Int32)), (.int (101 : Int32)), (.int (115 : Int32)), (.int (32 : Int32)), (.int (110 : Int32)), (.int (111 : Int32)), (.int (116 : Int32)), (.int (0 : Int32)), (.int (0 : Int32)), (.int (0 : Int32)), (.int (0 : Int32)), (.int (0 : Int32)), (.int (0 : Int32)), (.int (0 : Int32)), (.int (0 : Int32)), (.int (0 : Int32)), (.int (0 : Int32)), (.int (0 : Int32)), (.int (0 : Int32)), (.int (0 : Int32))] (.int 0) := by exact Bd
        clear Bd
        replace Vu := Vu.other Wd28 (Or.inl nud)
        replace Cu := Cu.other Wd28 (Or.inl nud)
        replace Xu := Xu.wr Wd28
        replace T0 := ext_wr T0 Wd28 gd
        clear Wd28
        refine Run.pure hK (seg := [(872, .dup, 1), (873, .bipush 29, 2), (875, .bipush 32, 2)]) (by decide +kernel) (pc' := 877) (L' := #[.val (.int i0), .val (.int i1), .val (.int i2), .val (.int a), .val (.int b), .val (.int x), .val (.int y), .val (.int g1), .val (.int g2), .val (.ref sC), .val (.ref sP), .unset, .unset, .unset]) (S' := [(.int (32 : Int32)), (.int (29 : Int32)), (.ref ad), (.ref ad), (.ref au), (.ref au)]) rfl ?_
        refine Run.cst hK Ad ⟨by decide, by decide⟩ gdz (by decide +kernel) (fun hd29 Wd29 Bd => ?_)
        replace Ad : Arv Z hd29 ad kd .char (42 : Int32) [(.int (105 : Int32)), (.int (116 : Int32)), (.int (115 : Int32)), (.int (32 : Int32)), (.int (109 : Int32)), (.int (97 : Int32)), (.int (112 : Int32)), (.int (112 : Int32)), (.int (101 : Int32)), (.int (100 : Int32)), (.int (32 : Int32)), (.int (112 : Int32)), (.int (97 : Int32)), (.int (116 : Int32)), (.int (104 : Int32)), (.int (32 : Int32)), (.int (34 : Int32)), (.int x), (.int y), (.int (34 : Int32)), (.int (32 : Int32)), (.int (100 : Int32)), (.int (111 : Int32)), (.int (101 : Int32)), (.int (115 : Int32)), (.int (32 : Int32)), (.int (110 : Int32)), (.int (111 : Int32)), (.int (116 : Int32)), (.int (32 : Int32)), (.int (0 : Int32)), (.int (0 : Int32)), (.int (0 : Int32)), (.int (0 : Int32)), (.int (0 : Int32)), (.int (0 : Int32)), (.int (0 : Int32)), (.int (0 : Int32)), (.int (0 : Int32)), (.int (0 : Int32)), (.int (0 : Int32)), (.int (0 : Int32))] (.int 0) := by exact Bd
        clear Bd
        replace Vu := Vu.other Wd29 (Or.inl nud)
        replace Cu := Cu.other Wd29 (Or.inl nud)
        replace Xu := Xu.wr Wd29
        replace T0 := ext_wr T0 Wd29 gd
        clear Wd29
        refine Run.pure hK (seg := [(878, .dup, 1), (879, .bipush 30, 2), (881, .bipush 115, 2)]) (by decide +kernel) (pc' := 883) (L' := #[.val (.int i0), .val (.int i1), .val (.int i2), .val (.int a), .val (.int b), .val (.int x), .val (.int y), .val (.int g1), .val (.int g2), .val (.ref sC), .val (.ref sP), .unset, .unset, .unset]) (S' := [(.int (115 : Int32)), (.int (30 : Int32)), (.ref ad), (.ref ad), (.ref au), (.ref au)]) rfl ?_
        refine Run.cst hK Ad ⟨by decide, by decide⟩ gdz (by decide +kernel) (fun hd30 Wd30 Bd => ?_)
        replace Ad : Arv Z hd30 ad kd .char (42 : Int32) [(.int (105 : Int32)), (.int (116 : Int32)), (.int (115 : Int32)), (.int (32 : Int32)), (.int (109 : Int32)), (.int (97 : Int32)), (.int (112 : Int32)), (.int (112 : Int32)), (.int (101 : Int32)), (.int (100 : Int32)), (.int (32 : Int32)), (.int (112 : Int32)), (.int (97 : Int32)), (.int (116 : Int32)), (.int (104 : Int32)), (.int (32 : Int32)), (.int (34 : Int32)), (.int x), (.int y), (.int (34 : Int32)), (.int (32 : Int32)), (.int (100 : Int32)), (.int (111 : Int32)), (.int (101 : Int32)), (.int (115 : Int32)), (.int (32 : Int32)), (.int (110 : Int32)), (.int (111 : Int32)), (.int (116 : Int32)), (.int (32 : Int32)), (.int (115 : Int32)), (.int (0 : Int32)), (.int (0 : Int32)), (.int (0 : Int32)), (.int (0 : Int32)), (.int (0 : Int32)), (.int (0 : Int32)), (.int (0 : Int32)), (.int (0 : Int32)), (.int (0 : Int32)), (.int (0 : Int32)), (.int (0 : Int32))] (.int 0) := by exact Bd
        clear Bd
        replace Vu := Vu.other Wd30 (Or.inl nud)
        replace Cu := Cu.other Wd30 (Or.inl nud)
        replace Xu := Xu.wr Wd30
        replace T0 := ext_wr T0 Wd30 gd
        clear Wd30
        refine Run.pure hK (seg := [(884, .dup, 1), (885, .bipush 31, 2), (887, .bipush 116, 2)]) (by decide +kernel) (pc' := 889) (L' := #[.val (.int i0), .val (.int i1), .val (.int i2), .val (.int a), .val (.int b), .val (.int x), .val (.int y), .val (.int g1), .val (.int g2), .val (.ref sC), .val (.ref sP), .unset, .unset, .unset]) (S' := [(.int (116 : Int32)), (.int (31 : Int32)), (.ref ad), (.ref ad), (.ref au), (.ref au)]) rfl ?_
        refine Run.cst hK Ad ⟨by decide, by decide⟩ gdz (by decide +kernel) (fun hd31 Wd31 Bd => ?_)
        replace Ad : Arv Z hd31 ad kd .char (42 : Int32) [(.int (105 : Int32)), (.int (116 : Int32)), (.int (115 : Int32)), (.int (32 : Int32)), (.int (109 : Int32)), (.int (97 : Int32)), (.int (112 : Int32)), (.int (112 : Int32)), (.int (101 : Int32)), (.int (100 : Int32)), (.int (32 : Int32)), (.int (112 : Int32)), (.int (97 : Int32)), (.int (116 : Int32)), (.int (104 : Int32)), (.int (32 : Int32)), (.int (34 : Int32)), (.int x), (.int y), (.int (34 : Int32)), (.int (32 : Int32)), (.int (100 : Int32)), (.int (111 : Int32)), (.int (101 : Int32)), (.int (115 : Int32)), (.int (32 : Int32)), (.int (110 : Int32)), (.int (111 : Int32)), (.int (116 : Int32)), (.int (32 : Int32)), (.int (115 : Int32)), (.int (116 : Int32)), (.int (0 : Int32)), (.int (0 : Int32)), (.int (0 : Int32)), (.int (0 : Int32)), (.int (0 : Int32)), (.int (0 : Int32)), (.int (0 : Int32)), (.int (0 : Int32)), (.int (0 : Int32)), (.int (0 : Int32))] (.int 0) := by exact Bd
        clear Bd
        replace Vu := Vu.other Wd31 (Or.inl nud)
        replace Cu := Cu.other Wd31 (Or.inl nud)
        replace Xu := Xu.wr Wd31
        replace T0 := ext_wr T0 Wd31 gd
        clear Wd31
        refine Run.pure hK (seg := [(890, .dup, 1), (891, .bipush 32, 2), (893, .bipush 97, 2)]) (by decide +kernel) (pc' := 895) (L' := #[.val (.int i0), .val (.int i1), .val (.int i2), .val (.int a), .val (.int b), .val (.int x), .val (.int y), .val (.int g1), .val (.int g2), .val (.ref sC), .val (.ref sP), .unset, .unset, .unset]) (S' := [(.int (97 : Int32)), (.int (32 : Int32)), (.ref ad), (.ref ad), (.ref au), (.ref au)]) rfl ?_
        refine Run.cst hK Ad ⟨by decide, by decide⟩ gdz (by decide +kernel) (fun hd32 Wd32 Bd => ?_)
        replace Ad : Arv Z hd32 ad kd .char (42 : Int32) [(.int (105 : Int32)), (.int (116 : Int32)), (.int (115 : Int32)), (.int (32 : Int32)), (.int (109 : Int32)), (.int (97 : Int32)), (.int (112 : Int32)), (.int (112 : Int32)), (.int (101 : Int32)), (.int (100 : Int32)), (.int (32 : Int32)), (.int (112 : Int32)), (.int (97 : Int32)), (.int (116 : Int32)), (.int (104 : Int32)), (.int (32 : Int32)), (.int (34 : Int32)), (.int x), (.int y), (.int (34 : Int32)), (.int (32 : Int32)), (.int (100 : Int32)), (.int (111 : Int32)), (.int (101 : Int32)), (.int (115 : Int32)), (.int (32 : Int32)), (.int (110 : Int32)), (.int (111 : Int32)), (.int (116 : Int32)), (.int (32 : Int32)), (.int (115 : Int32)), (.int (116 : Int32)), (.int (97 : Int32)), (.int (0 : Int32)), (.int (0 : Int32)), (.int (0 : Int32)), (.int (0 : Int32)), (.int (0 : Int32)), (.int (0 : Int32)), (.int (0 : Int32)), (.int (0 : Int32)), (.int (0 : Int32))] (.int 0) := by exact Bd
        clear Bd
        replace Vu := Vu.other Wd32 (Or.inl nud)
        replace Cu := Cu.other Wd32 (Or.inl nud)
        replace Xu := Xu.wr Wd32
        replace T0 := ext_wr T0 Wd32 gd
        clear Wd32
        refine Run.pure hK (seg := [(896, .dup, 1), (897, .bipush 33, 2), (899, .bipush 114, 2)]) (by decide +kernel) (pc' := 901) (L' := #[.val (.int i0), .val (.int i1), .val (.int i2), .val (.int a), .val (.int b), .val (.int x), .val (.int y), .val (.int g1), .val (.int g2), .val (.ref sC), .val (.ref sP), .unset, .unset, .unset]) (S' := [(.int (114 : Int32)), (.int (33 : Int32)), (.ref ad), (.ref ad), (.ref au), (.ref au)]) rfl ?_
        refine Run.cst hK Ad ⟨by decide, by decide⟩ gdz (by decide +kernel) (fun hd33 Wd33 Bd => ?_)
        replace Ad : Arv Z hd33 ad kd .char (42 : Int32) [(.int (105 : Int32)), (.int (116 : Int32)), (.int (115 : Int32)), (.int (32 : Int32)), (.int (109 : Int32)), (.int (97 : Int32)), (.int (112 : Int32)), (.int (112 : Int32)), (.int (101 : Int32)), (.int (100 : Int32)), (.int (32 : Int32)), (.int (112 : Int32)), (.int (97 : Int32)), (.int (116 : Int32)), (.int (104 : Int32)), (.int (32 : Int32)), (.int (34 : Int32)), (.int x), (.int y), (.int (34 : Int32)), (.int (32 : Int32)), (.int (100 : Int32)), (.int (111 : Int32)), (.int (101 : Int32)), (.int (115 : Int32)), (.int (32 : Int32)), (.int (110 : Int32)), (.int (111 : Int32)), (.int (116 : Int32)), (.int (32 : Int32)), (.int (115 : Int32)), (.int (116 : Int32)), (.int (97 : Int32)), (.int (114 : Int32)), (.int (0 : Int32)), (.int (0 : Int32)), (.int (0 : Int32)), (.int (0 : Int32)), (.int (0 : Int32)), (.int (0 : Int32)), (.int (0 : Int32)), (.int (0 : Int32))] (.int 0) := by exact Bd
        clear Bd
        replace Vu := Vu.other Wd33 (Or.inl nud)
        replace Cu := Cu.other Wd33 (Or.inl nud)
        replace Xu := Xu.wr Wd33
        replace T0 := ext_wr T0 Wd33 gd
        clear Wd33
        refine Run.pure hK (seg := [(902, .dup, 1), (903, .bipush 34, 2), (905, .bipush 116, 2)]) (by decide +kernel) (pc' := 907) (L' := #[.val (.int i0), .val (.int i1), .val (.int i2), .val (.int a), .val (.int b), .val (.int x), .val (.int y), .val (.int g1), .val (.int g2), .val (.ref sC), .val (.ref sP), .unset, .unset, .unset]) (S' := [(.int (116 : Int32)), (.int (34 : Int32)), (.ref ad), (.ref ad), (.ref au), (.ref au)]) rfl ?_
        refine Run.cst hK Ad ⟨by decide, by decide⟩ gdz (by decide +kernel) (fun hd34 Wd34 Bd => ?_)
        replace Ad : Arv Z hd34 ad kd .char (42 : Int32) [(.int (105 : Int32)), (.int (116 : Int32)), (.int (115 : Int32)), (.int (32 : Int32)), (.int (109 : Int32)), (.int (97 : Int32)), (.int (112 : Int32)), (.int (112 : Int32)), (.int (101 : Int32)), (.int (100 : Int32)), (.int (32 : Int32)), (.int (112 : Int32)), (.int (97 : Int32)), (.int (116 : Int32)), (.int (104 : Int32)), (.int (32 : Int32)), (.int (34 : Int32)), (.int x), (.int y), (.int (34 : Int32)), (.int (32 : Int32)), (.int (100 : Int32)), (.int (111 : Int32)), (.int (101 : Int32)), (.int (115 : Int32)), (.int (32 : Int32)), (.int (110 : Int32)), (.int (111 : Int32)), (.int (116 : Int32)), (.int (32 : Int32)), (.int (115 : Int32)), (.int (116 : Int32)), (.int (97 : Int32)), (.int (114 : Int32)), (.int (116 : Int32)), (.int (0 : Int32)), (.int (0 : Int32)), (.int (0 : Int32)), (.int (0 : Int32)), (.int (0 : Int32)), (.int (0 : Int32)), (.int (0 : Int32))] (.int 0) := by exact Bd
        clear Bd
        replace Vu := Vu.other Wd34 (Or.inl nud)
        replace Cu := Cu.other Wd34 (Or.inl nud)
        replace Xu := Xu.wr Wd34
        replace T0 := ext_wr T0 Wd34 gd
        clear Wd34
        refine Run.pure hK (seg := [(908, .dup, 1), (909, .bipush 35, 2), (911, .bipush 32, 2)]) (by decide +kernel) (pc' := 913) (L' := #[.val (.int i0), .val (.int i1), .val (.int i2), .val (.int a), .val (.int b), .val (.int x), .val (.int y), .val (.int g1), .val (.int g2), .val (.ref sC), .val (.ref sP), .unset, .unset, .unset]) (S' := [(.int (32 : Int32)), (.int (35 : Int32)), (.ref ad), (.ref ad), (.ref au), (.ref au)]) rfl ?_
        refine Run.cst hK Ad ⟨by decide, by decide⟩ gdz (by decide +kernel) (fun hd35 Wd35 Bd => ?_)
        replace Ad : Arv Z hd35 ad kd .char (42 : Int32) [(.int (105 : Int32)), (.int (116 : Int32)), (.int (115 : Int32)), (.int (32 : Int32)), (.int (109 : Int32)), (.int (97 : Int32)), (.int (112 : Int32)), (.int (112 : Int32)), (.int (101 : Int32)), (.int (100 : Int32)), (.int (32 : Int32)), (.int (112 : Int32)), (.int (97 : Int32)), (.int (116 : Int32)), (.int (104 : Int32)), (.int (32 : Int32)), (.int (34 : Int32)), (.int x), (.int y), (.int (34 : Int32)), (.int (32 : Int32)), (.int (100 : Int32)), (.int (111 : Int32)), (.int (101 : Int32)), (.int (115 : Int32)), (.int (32 : Int32)), (.int (110 : Int32)), (.int (111 : Int32)), (.int (116 : Int32)), (.int (32 : Int32)), (.int (115 : Int32)), (.int (116 : Int32)), (.int (97 : Int32)), (.int (114 : Int32)), (.int (116 : Int32)), (.int (32 : Int32)), (.int (0 : Int32)), (.int (0 : Int32)), (.int (0 : Int32)), (.int (0 : Int32)), (.int (0 : Int32)), (.int (0 : Int32))] (.int 0) := by exact Bd
        clear Bd
        replace Vu := Vu.other Wd35 (Or.inl nud)
        replace Cu := Cu.other Wd35 (Or.inl nud)
        replace Xu := Xu.wr Wd35
        replace T0 := ext_wr T0 Wd35 gd
        clear Wd35
        refine Run.pure hK (seg := [(914, .dup, 1), (915, .bipush 36, 2), (917, .bipush 119, 2)]) (by decide +kernel) (pc' := 919) (L' := #[.val (.int i0), .val (.int i1), .val (.int i2), .val (.int a), .val (.int b), .val (.int x), .val (.int y), .val (.int g1), .val (.int g2), .val (.ref sC), .val (.ref sP), .unset, .unset, .unset]) (S' := [(.int (119 : Int32)), (.int (36 : Int32)), (.ref ad), (.ref ad), (.ref au), (.ref au)]) rfl ?_
        refine Run.cst hK Ad ⟨by decide, by decide⟩ gdz (by decide +kernel) (fun hd36 Wd36 Bd => ?_)
        replace Ad : Arv Z hd36 ad kd .char (42 : Int32) [(.int (105 : Int32)), (.int (116 : Int32)), (.int (115 : Int32)), (.int (32 : Int32)), (.int (109 : Int32)), (.int (97 : Int32)), (.int (112 : Int32)), (.int (112 : Int32)), (.int (101 : Int32)), (.int (100 : Int32)), (.int (32 : Int32)), (.int (112 : Int32)), (.int (97 : Int32)), (.int (116 : Int32)), (.int (104 : Int32)), (.int (32 : Int32)), (.int (34 : Int32)), (.int x), (.int y), (.int (34 : Int32)), (.int (32 : Int32)), (.int (100 : Int32)), (.int (111 : Int32)), (.int (101 : Int32)), (.int (115 : Int32)), (.int (32 : Int32)), (.int (110 : Int32)), (.int (111 : Int32)), (.int (116 : Int32)), (.int (32 : Int32)), (.int (115 : Int32)), (.int (116 : Int32)), (.int (97 : Int32)), (.int (114 : Int32)), (.int (116 : Int32)), (.int (32 : Int32)), (.int (119 : Int32)), (.int (0 : Int32)), (.int (0 : Int32)), (.int (0 : Int32)), (.int (0 : Int32)), (.int (0 : Int32))] (.int 0) := by exact Bd
        clear Bd
        replace Vu := Vu.other Wd36 (Or.inl nud)
        replace Cu := Cu.other Wd36 (Or.inl nud)
        replace Xu := Xu.wr Wd36
        replace T0 := ext_wr T0 Wd36 gd
        clear Wd36
        refine Run.pure hK (seg := [(920, .dup, 1), (921, .bipush 37, 2), (923, .bipush 105, 2)]) (by decide +kernel) (pc' := 925) (L' := #[.val (.int i0), .val (.int i1), .val (.int i2), .val (.int a), .val (.int b), .val (.int x), .val (.int y), .val (.int g1), .val (.int g2), .val (.ref sC), .val (.ref sP), .unset, .unset, .unset]) (S' := [(.int (105 : Int32)), (.int (37 : Int32)), (.ref ad), (.ref ad), (.ref au), (.ref au)]) rfl ?_
        refine Run.cst hK Ad ⟨by decide, by decide⟩ gdz (by decide +kernel) (fun hd37 Wd37 Bd => ?_)
        replace Ad : Arv Z hd37 ad kd .char (42 : Int32) [(.int (105 : Int32)), (.int (116 : Int32)), (.int (115 : Int32)), (.int (32 : Int32)), (.int (109 : Int32)), (.int (97 : Int32)), (.int (112 : Int32)), (.int (112 : Int32)), (.int (101 : Int32)), (.int (100 : Int32)), (.int (32 : Int32)), (.int (112 : Int32)), (.int (97 : Int32)), (.int (116 : Int32)), (.int (104 : Int32)), (.int (32 : Int32)), (.int (34 : Int32)), (.int x), (.int y), (.int (34 : Int32)), (.int (32 : Int32)), (.int (100 : Int32)), (.int (111 : Int32)), (.int (101 : Int32)), (.int (115 : Int32)), (.int (32 : Int32)), (.int (110 : Int32)), (.int (111 : Int32)), (.int (116 : Int32)), (.int (32 : Int32)), (.int (115 : Int32)), (.int (116 : Int32)), (.int (97 : Int32)), (.int (114 : Int32)), (.int (116 : Int32)), (.int (32 : Int32)), (.int (119 : Int32)), (.int (105 : Int32)), (.int (0 : Int32)), (.int (0 : Int32)), (.int (0 : Int32)), (.int (0 : Int32))] (.int 0) := by exact Bd
        clear Bd
        replace Vu := Vu.other Wd37 (Or.inl nud)
        replace Cu := Cu.other Wd37 (Or.inl nud)
        replace Xu := Xu.wr Wd37
        replace T0 := ext_wr T0 Wd37 gd
        clear Wd37
        refine Run.pure hK (seg := [(926, .dup, 1), (927, .bipush 38, 2), (929, .bipush 116, 2)]) (by decide +kernel) (pc' := 931) (L' := #[.val (.int i0), .val (.int i1), .val (.int i2), .val (.int a), .val (.int b), .val (.int x), .val (.int y), .val (.int g1), .val (.int g2), .val (.ref sC), .val (.ref sP), .unset, .unset, .unset]) (S' := [(.int (116 : Int32)), (.int (38 : Int32)), (.ref ad), (.ref ad), (.ref au), (.ref au)]) rfl ?_
        refine Run.cst hK Ad ⟨by decide, by decide⟩ gdz (by decide +kernel) (fun hd38 Wd38 Bd => ?_)
        replace Ad : Arv Z hd38 ad kd .char (42 : Int32) [(.int (105 : Int32)), (.int (116 : Int32)), (.int (115 : Int32)), (.int (32 : Int32)), (.int (109 : Int32)), (.int (97 : Int32)), (.int (112 : Int32)), (.int (112 : Int32)), (.int (101 : Int32)), (.int (100 : Int32)), (.int (32 : Int32)), (.int (112 : Int32)), (.int (97 : Int32)), (.int (116 : Int32)), (.int (104 : Int32)), (.int (32 : Int32)), (.int (34 : Int32)), (.int x), (.int y), (.int (34 : Int32)), (.int (32 : Int32)), (.int (100 : Int32)), (.int (111 : Int32)), (.int (101 : Int32)), (.int (115 : Int32)), (.int (32 : Int32)), (.int (110 : Int32)), (.int (111 : Int32)), (.int (116 : Int32)), (.int (32 : Int32)), (.int (115 : Int32)), (.int (116 : Int32)), (.int (97 : Int32)), (.int (114 : Int32)), (.int (116 : Int32)), (.int (32 : Int32)), (.int (119 : Int32)), (.int (105 : Int32)), (.int (116 : Int32)), (.int (0 : Int32)), (.int (0 : Int32)), (.int (0 : Int32))] (.int 0) := by exact Bd
        clear Bd
        replace Vu := Vu.other Wd38 (Or.inl nud)
        replace Cu := Cu.other Wd38 (Or.inl nud)
        replace Xu := Xu.wr Wd38
        replace T0 := ext_wr T0 Wd38 gd
        clear Wd38
        refine Run.pure hK (seg := [(932, .dup, 1), (933, .bipush 39, 2), (935, .bipush 104, 2)]) (by decide +kernel) (pc' := 937) (L' := #[.val (.int i0), .val (.int i1), .val (.int i2), .val (.int a), .val (.int b), .val (.int x), .val (.int y), .val (.int g1), .val (.int g2), .val (.ref sC), .val (.ref sP), .unset, .unset, .unset]) (S' := [(.int (104 : Int32)), (.int (39 : Int32)), (.ref ad), (.ref ad), (.ref au), (.ref au)]) rfl ?_
        refine Run.cst hK Ad ⟨by decide, by decide⟩ gdz (by decide +kernel) (fun hd39 Wd39 Bd => ?_)
        replace Ad : Arv Z hd39 ad kd .char (42 : Int32) [(.int (105 : Int32)), (.int (116 : Int32)), (.int (115 : Int32)), (.int (32 : Int32)), (.int (109 : Int32)), (.int (97 : Int32)), (.int (112 : Int32)), (.int (112 : Int32)), (.int (101 : Int32)), (.int (100 : Int32)), (.int (32 : Int32)), (.int (112 : Int32)), (.int (97 : Int32)), (.int (116 : Int32)), (.int (104 : Int32)), (.int (32 : Int32)), (.int (34 : Int32)), (.int x), (.int y), (.int (34 : Int32)), (.int (32 : Int32)), (.int (100 : Int32)), (.int (111 : Int32)), (.int (101 : Int32)), (.int (115 : Int32)), (.int (32 : Int32)), (.int (110 : Int32)), (.int (111 : Int32)), (.int (116 : Int32)), (.int (32 : Int32)), (.int (115 : Int32)), (.int (116 : Int32)), (.int (97 : Int32)), (.int (114 : Int32)), (.int (116 : Int32)), (.int (32 : Int32)), (.int (119 : Int32)), (.int (105 : Int32)), (.int (116 : Int32)), (.int (104 : Int32)), (.int (0 : Int32)), (.int (0 : Int32))] (.int 0) := by exact Bd
        clear Bd
        replace Vu := Vu.other Wd39 (Or.inl nud)
        replace Cu := Cu.other Wd39 (Or.inl nud)
        replace Xu := Xu.wr Wd39
        replace T0 := ext_wr T0 Wd39 gd
        clear Wd39
        refine Run.pure hK (seg := [(938, .dup, 1), (939, .bipush 40, 2), (941, .bipush 32, 2)]) (by decide +kernel) (pc' := 943) (L' := #[.val (.int i0), .val (.int i1), .val (.int i2), .val (.int a), .val (.int b), .val (.int x), .val (.int y), .val (.int g1), .val (.int g2), .val (.ref sC), .val (.ref sP), .unset, .unset, .unset]) (S' := [(.int (32 : Int32)), (.int (40 : Int32)), (.ref ad), (.ref ad), (.ref au), (.ref au)]) rfl ?_
        refine Run.cst hK Ad ⟨by decide, by decide⟩ gdz (by decide +kernel) (fun hd40 Wd40 Bd => ?_)
        replace Ad : Arv Z hd40 ad kd .char (42 : Int32) [(.int (105 : Int32)), (.int (116 : Int32)), (.int (115 : Int32)), (.int (32 : Int32)), (.int (109 : Int32)), (.int (97 : Int32)), (.int (112 : Int32)), (.int (112 : Int32)), (.int (101 : Int32)), (.int (100 : Int32)), (.int (32 : Int32)), (.int (112 : Int32)), (.int (97 : Int32)), (.int (116 : Int32)), (.int (104 : Int32)), (.int (32 : Int32)), (.int (34 : Int32)), (.int x), (.int y), (.int (34 : Int32)), (.int (32 : Int32)), (.int (100 : Int32)), (.int (111 : Int32)), (.int (101 : Int32)), (.int (115 : Int32)), (.int (32 : Int32)), (.int (110 : Int32)), (.int (111 : Int32)), (.int (116 : Int32)), (.int (32 : Int32)), (.int (115 : Int32)), (.int (116 : Int32)), (.int (97 : Int32)), (.int (114 : Int32)), (.int (116 : Int32)), (.int (32 : Int32)), (.int (119 : Int32)), (.int (105 : Int32)), (.int (116 : Int32)), (.int (104 : Int32)), (.int (32 : Int32)), (.int (0 : Int32))] (.int 0) := by exact Bd
        clear Bd
        replace Vu := Vu.other Wd40 (Or.inl nud)
        replace Cu := Cu.other Wd40 (Or.inl nud)
        replace Xu := Xu.wr Wd40
        replace T0 := ext_wr T0 Wd40 gd
        clear Wd40
        refine Run.pure hK (seg := [(944, .dup, 1), (945, .bipush 41, 2), (947, .bipush 47, 2)]) (by decide +kernel) (pc' := 949) (L' := #[.val (.int i0), .val (.int i1), .val (.int i2), .val (.int a), .val (.int b), .val (.int x), .val (.int y), .val (.int g1), .val (.int g2), .val (.ref sC), .val (.ref sP), .unset, .unset, .unset]) (S' := [(.int (47 : Int32)), (.int (41 : Int32)), (.ref ad), (.ref ad), (.ref au), (.ref au)]) rfl ?_
        refine Run.cst hK Ad ⟨by decide, by decide⟩ gdz (by decide +kernel) (fun hd41 Wd41 Bd => ?_)
        replace Ad : Arv Z hd41 ad kd .char (42 : Int32) [(.int (105 : Int32)), (.int (116 : Int32)), (.int (115 : Int32)), (.int (32 : Int32)), (.int (109 : Int32)), (.int (97 : Int32)), (.int (112 : Int32)), (.int (112 : Int32)), (.int (101 : Int32)), (.int (100 : Int32)), (.int (32 : Int32)), (.int (112 : Int32)), (.int (97 : Int32)), (.int (116 : Int32)), (.int (104 : Int32)), (.int (32 : Int32)), (.int (34 : Int32)), (.int x), (.int y), (.int (34 : Int32)), (.int (32 : Int32)), (.int (100 : Int32)), (.int (111 : Int32)), (.int (101 : Int32)), (.int (115 : Int32)), (.int (32 : Int32)), (.int (110 : Int32)), (.int (111 : Int32)), (.int (116 : Int32)), (.int (32 : Int32)), (.int (115 : Int32)), (.int (116 : Int32)), (.int (97 : Int32)), (.int (114 : Int32)), (.int (116 : Int32)), (.int (32 : Int32)), (.int (119 : Int32)), (.int (105 : Int32)), (.int (116 : Int32)), (.int (104 : Int32)), (.int (32 : Int32)), (.int (47 : Int32))] (.int 0) := by exact Bd
        clear Bd
        replace Vu := Vu.other Wd41 (Or.inl nud)
        replace Cu := Cu.other Wd41 (Or.inl nud)
        replace Xu := Xu.wr Wd41
        replace T0 := ext_wr T0 Wd41 gd
        clear Wd41
        refine Run.special hK (index := 9) (y := (⟨"java/lang/String", "<init>", "([C)V"⟩ : MethodName)) (Wt := 1) (kc := 4) (ks := 44) rfl (hw _ (List.mem_of_getElem? (i := 4) rfl)) (hw _ (List.mem_of_getElem? (i := 5) rfl)) (hw _ (List.mem_of_getElem? (i := 6) rfl)) (by decide) (a := au) (fun _ q => q) (cal_newS G (cs := [(105 : Int32), (116 : Int32), (115 : Int32), (32 : Int32), (109 : Int32), (97 : Int32), (112 : Int32), (112 : Int32), (101 : Int32), (100 : Int32), (32 : Int32), (112 : Int32), (97 : Int32), (116 : Int32), (104 : Int32), (32 : Int32), (34 : Int32), x, y, (34 : Int32), (32 : Int32), (100 : Int32), (111 : Int32), (101 : Int32), (115 : Int32), (32 : Int32), (110 : Int32), (111 : Int32), (116 : Int32), (32 : Int32), (115 : Int32), (116 : Int32), (97 : Int32), (114 : Int32), (116 : Int32), (32 : Int32), (119 : Int32), (105 : Int32), (116 : Int32), (104 : Int32), (32 : Int32), (47 : Int32)]) (Nat.le_trans hO5.1 gu) (by simp) Xu Vu Cu Ad rfl (Nat.le_of_ble_eq_true rfl) (fun c hc => by simp only [List.mem_cons, List.not_mem_nil, or_false] at hc; rcases hc with rfl | rfl | rfl | rfl | rfl | rfl | rfl | rfl | rfl | rfl | rfl | rfl | rfl | rfl | rfl | rfl | rfl | rfl | rfl | rfl | rfl | rfl | rfl | rfl | rfl | rfl | rfl | rfl | rfl | rfl | rfl | rfl | rfl | rfl | rfl | rfl | rfl | rfl | rfl | rfl | rfl | rfl <;> first | decide | exact b_x | exact b_y) (by decide) (by decide) (kc := 4) (ks := 44) (by decide) (by decide) (Nat.le_of_ble_eq_true rfl)) rfl (argsL := [(.ref ad)]) (rest := [(.ref au)]) (lenOf pd_s1 rfl) rfl (Nat.le_of_ble_eq_true rfl) (by decide +kernel) (by decide) (by decide) (fun vi hi qi ni => ?_)
        obtain ⟨rfl, Fi, Ki⟩ := qi
        have Ti := ext_keep T0 Ki (fun x hx => by cases List.mem_singleton.mp hx; exact gu)
        refine Run.pure hK (seg := [(953, .astore 11, 2), (955, .goto 250, 3)]) (by decide +kernel) (pc' := 1205) (L' := #[.val (.int i0), .val (.int i1), .val (.int i2), .val (.int a), .val (.int b), .val (.int x), .val (.int y), .val (.int g1), .val (.int g2), .val (.ref sC), .val (.ref sP), .val (.ref au), .unset, .unset]) (S' := []) rfl ?_
        refine Run.less (W' := []) ?_ (fun _ q => nomatch q)
        refine Run.mono (s5 _ _ ?_ Ti) (by decide) (by decide)
        rw [Cn0 r1, Cn1 r2]; exact Fi
    · replace r1 := (h_eq _ _).2 r1
      refine Run.pure hK (seg := [(147, .iload 8, 2)]) (by decide +kernel) (pc' := 149) (L' := #[.val (.int i0), .val (.int i1), .val (.int i2), .val (.int a), .val (.int b), .val (.int x), .val (.int y), .val (.int g1), .val (.int g2), .val (.ref sC), .val (.ref sP), .unset, .unset, .unset]) (S' := [(.int g2)]) rfl ?_
      refine Run.ifz hK (cd := .eq) (o := 276) (by decide +kernel) (by decide) (pc' := 425) rfl (fun r2 => ?_) (fun r2 => ?_)
      · replace r2 := (h_eq _ _).1 r2
        refine Run.pure hK (seg := [(425, .iload 7, 2)]) (by decide +kernel) (pc' := 427) (L' := #[.val (.int i0), .val (.int i1), .val (.int i2), .val (.int a), .val (.int b), .val (.int x), .val (.int y), .val (.int g1), .val (.int g2), .val (.ref sC), .val (.ref sP), .unset, .unset, .unset]) (S' := [(.int g1)]) rfl ?_
        refine Run.ifz hK (cd := .eq) (o := 264) (by decide +kernel) (by decide) (pc' := 691) rfl (fun q => by replace q := (h_eq _ _).1 q; exact absurd q r1) (fun _ => ?_)
        refine Run.new hK (index := 7) (C := "java/lang/String") (n := 4) (hw _ (List.mem_of_getElem? (i := 0) rfl)) (hw _ (List.mem_of_getElem? (i := 1) rfl)) (hw _ (List.mem_of_getElem? (i := 2) rfl)) (by decide +kernel) (by decide) (by decide) (fun hu Eu Xu Du => ?_)
        obtain ⟨au, zu⟩ : ∃ z, z = f4.size := ⟨_, rfl⟩
        rw [← zu]
        rw [← zu] at Xu Du
        refine Run.pure hK (seg := [(433, .dup, 1), (434, .bipush 42, 2)]) (by decide +kernel) (pc' := 436) (L' := #[.val (.int i0), .val (.int i1), .val (.int i2), .val (.int a), .val (.int b), .val (.int x), .val (.int y), .val (.int g1), .val (.int g2), .val (.ref sC), .val (.ref sP), .unset, .unset, .unset]) (S' := [(.int (42 : Int32)), (.ref au), (.ref au)]) rfl ?_
        have Vu := Du (Or.inr (hw _ (List.mem_of_getElem? (i := 16) rfl))) (ty := .array .byte) (by decide)
        have Cu := Du (Or.inr (hw _ (List.mem_of_getElem? (i := 17) rfl))) (ty := .byte) (by decide)
        refine Run.newarr hK (aty := .char) (hw _ (List.mem_of_getElem? (i := 3) rfl)) (by decide +kernel) (by decide) (cap := 42) (by decide) (by decide) (by decide) (by decide) (fun hd kd Ed Ad => ?_)
        obtain ⟨ad, zd⟩ : ∃ z, z = hu.size := ⟨_, rfl⟩
        rw [← zd]
        rw [← zd] at Ad
        have nud : au ≠ ad := fun z => absurd Xu.lt (by rw [z, zd]; exact Nat.lt_irrefl _)
        have gd : f4.size ≤ ad := by rw [zd]; exact Eu.1
        have gu : f4.size ≤ au := by rw [zu]; exact Nat.le_refl _
        replace Xu := Xu.ext Ed
        replace Vu := Vu.ext Ed
        replace Cu := Cu.ext Ed
        have T0 := Ext.tr Eu Ed
        have gdz := Nat.le_trans hO5.1 gd
        refine Run.pure hK (seg := [(438, .dup, 1), (439, .iconst 0, 1), (440, .iload_n 3, 1)]) (by decide +kernel) (pc' := 441) (L' := #[.val (.int i0), .val (.int i1), .val (.int i2), .val (.int a), .val (.int b), .val (.int x), .val (.int y), .val (.int g1), .val (.int g2), .val (.ref sC), .val (.ref sP), .unset, .unset, .unset]) (S' := [(.int a), (.int (0 : Int32)), (.ref ad), (.ref ad), (.ref au), (.ref au)]) rfl ?_
        refine Run.cst hK Ad ⟨by decide, by decide⟩ gdz (by decide +kernel) (fun hd0 Wd0 Bd => ?_)
        replace Ad : Arv Z hd0 ad kd .char (42 : Int32) [(.int a), (.int (0 : Int32)), (.int (0 : Int32)), (.int (0 : Int32)), (.int (0 : Int32)), (.int (0 : Int32)), (.int (0 : Int32)), (.int (0 : Int32)), (.int (0 : Int32)), (.int (0 : Int32)), (.int (0 : Int32)), (.int (0 : Int32)), (.int (0 : Int32)), (.int (0 : Int32)), (.int (0 : Int32)), (.int (0 : Int32)), (.int (0 : Int32)), (.int (0 : Int32)), (.int (0 : Int32)), (.int (0 : Int32)), (.int (0 : Int32)), (.int (0 : Int32)), (.int (0 : Int32)), (.int (0 : Int32)), (.int (0 : Int32)), (.int (0 : Int32)), (.int (0 : Int32)), (.int (0 : Int32)), (.int (0 : Int32)), (.int (0 : Int32)), (.int (0 : Int32)), (.int (0 : Int32)), (.int (0 : Int32)), (.int (0 : Int32)), (.int (0 : Int32)), (.int (0 : Int32)), (.int (0 : Int32)), (.int (0 : Int32)), (.int (0 : Int32)), (.int (0 : Int32)), (.int (0 : Int32)), (.int (0 : Int32))] (.int 0) := by rw [nc b_a] at Bd; exact Bd
        clear Bd
        replace Vu := Vu.other Wd0 (Or.inl nud)
        replace Cu := Cu.other Wd0 (Or.inl nud)
        replace Xu := Xu.wr Wd0
        replace T0 := ext_wr T0 Wd0 gd
        clear Wd0
        refine Run.pure hK (seg := [(442, .dup, 1), (443, .iconst 1, 1), (444, .iload 4, 2)]) (by decide +kernel) (pc' := 446) (L' := #[.val (.int i0), .val (.int i1), .val (.int i2), .val (.int a), .val (.int b), .val (.int x), .val (.int y), .val (.int g1), .val (.int g2), .val (.ref sC), .val (.ref sP), .unset, .unset, .unset]) (S' := [(.int b), (.int (1 : Int32)), (.ref ad), (.ref ad), (.ref au), (.ref au)]) rfl ?_
        refine Run.cst hK Ad ⟨by decide, by decide⟩ gdz (by decide +kernel) (fun hd1 Wd1 Bd => ?_)
        replace Ad : Arv Z hd1 ad kd .char (42 : Int32) [(.int a), (.int b), (.int (0 : Int32)), (.int (0 : Int32)), (.int (0 : Int32)), (.int (0 : Int32)), (.int (0 : Int32)), (.int (0 : Int32)), (.int (0 : Int32)), (.int (0 : Int32)), (.int (0 : Int32)), (.int (0 : Int32)), (.int (0 : Int32)), (.int (0 : Int32)), (.int (0 : Int32)), (.int (0 : Int32)), (.int (0 : Int32)), (.int (0 : Int32)), (.int (0 : Int32)), (.int (0 : Int32)), (.int (0 : Int32)), (.int (0 : Int32)), (.int (0 : Int32)), (.int (0 : Int32)), (.int (0 : Int32)), (.int (0 : Int32)), (.int (0 : Int32)), (.int (0 : Int32)), (.int (0 : Int32)), (.int (0 : Int32)), (.int (0 : Int32)), (.int (0 : Int32)), (.int (0 : Int32)), (.int (0 : Int32)), (.int (0 : Int32)), (.int (0 : Int32)), (.int (0 : Int32)), (.int (0 : Int32)), (.int (0 : Int32)), (.int (0 : Int32)), (.int (0 : Int32)), (.int (0 : Int32))] (.int 0) := by rw [nc b_b] at Bd; exact Bd
        clear Bd
        replace Vu := Vu.other Wd1 (Or.inl nud)
        replace Cu := Cu.other Wd1 (Or.inl nud)
        replace Xu := Xu.wr Wd1
        replace T0 := ext_wr T0 Wd1 gd
        clear Wd1
        refine Run.pure hK (seg := [(447, .dup, 1), (448, .iconst 2, 1), (449, .bipush 105, 2)]) (by decide +kernel) (pc' := 451) (L' := #[.val (.int i0), .val (.int i1), .val (.int i2), .val (.int a), .val (.int b), .val (.int x), .val (.int y), .val (.int g1), .val (.int g2), .val (.ref sC), .val (.ref sP), .unset, .unset, .unset]) (S' := [(.int (105 : Int32)), (.int (2 : Int32)), (.ref ad), (.ref ad), (.ref au), (.ref au)]) rfl ?_
        refine Run.cst hK Ad ⟨by decide, by decide⟩ gdz (by decide +kernel) (fun hd2 Wd2 Bd => ?_)
        replace Ad : Arv Z hd2 ad kd .char (42 : Int32) [(.int a), (.int b), (.int (105 : Int32)), (.int (0 : Int32)), (.int (0 : Int32)), (.int (0 : Int32)), (.int (0 : Int32)), (.int (0 : Int32)), (.int (0 : Int32)), (.int (0 : Int32)), (.int (0 : Int32)), (.int (0 : Int32)), (.int (0 : Int32)), (.int (0 : Int32)), (.int (0 : Int32)), (.int (0 : Int32)), (.int (0 : Int32)), (.int (0 : Int32)), (.int (0 : Int32)), (.int (0 : Int32)), (.int (0 : Int32)), (.int (0 : Int32)), (.int (0 : Int32)), (.int (0 : Int32)), (.int (0 : Int32)), (.int (0 : Int32)), (.int (0 : Int32)), (.int (0 : Int32)), (.int (0 : Int32)), (.int (0 : Int32)), (.int (0 : Int32)), (.int (0 : Int32)), (.int (0 : Int32)), (.int (0 : Int32)), (.int (0 : Int32)), (.int (0 : Int32)), (.int (0 : Int32)), (.int (0 : Int32)), (.int (0 : Int32)), (.int (0 : Int32)), (.int (0 : Int32)), (.int (0 : Int32))] (.int 0) := by exact Bd
        clear Bd
        replace Vu := Vu.other Wd2 (Or.inl nud)
        replace Cu := Cu.other Wd2 (Or.inl nud)
        replace Xu := Xu.wr Wd2
        replace T0 := ext_wr T0 Wd2 gd
        clear Wd2
        refine Run.pure hK (seg := [(452, .dup, 1), (453, .iconst 3, 1), (454, .bipush 116, 2)]) (by decide +kernel) (pc' := 456) (L' := #[.val (.int i0), .val (.int i1), .val (.int i2), .val (.int a), .val (.int b), .val (.int x), .val (.int y), .val (.int g1), .val (.int g2), .val (.ref sC), .val (.ref sP), .unset, .unset, .unset]) (S' := [(.int (116 : Int32)), (.int (3 : Int32)), (.ref ad), (.ref ad), (.ref au), (.ref au)]) rfl ?_
        refine Run.cst hK Ad ⟨by decide, by decide⟩ gdz (by decide +kernel) (fun hd3 Wd3 Bd => ?_)
        replace Ad : Arv Z hd3 ad kd .char (42 : Int32) [(.int a), (.int b), (.int (105 : Int32)), (.int (116 : Int32)), (.int (0 : Int32)), (.int (0 : Int32)), (.int (0 : Int32)), (.int (0 : Int32)), (.int (0 : Int32)), (.int (0 : Int32)), (.int (0 : Int32)), (.int (0 : Int32)), (.int (0 : Int32)), (.int (0 : Int32)), (.int (0 : Int32)), (.int (0 : Int32)), (.int (0 : Int32)), (.int (0 : Int32)), (.int (0 : Int32)), (.int (0 : Int32)), (.int (0 : Int32)), (.int (0 : Int32)), (.int (0 : Int32)), (.int (0 : Int32)), (.int (0 : Int32)), (.int (0 : Int32)), (.int (0 : Int32)), (.int (0 : Int32)), (.int (0 : Int32)), (.int (0 : Int32)), (.int (0 : Int32)), (.int (0 : Int32)), (.int (0 : Int32)), (.int (0 : Int32)), (.int (0 : Int32)), (.int (0 : Int32)), (.int (0 : Int32)), (.int (0 : Int32)), (.int (0 : Int32)), (.int (0 : Int32)), (.int (0 : Int32)), (.int (0 : Int32))] (.int 0) := by exact Bd
        clear Bd
        replace Vu := Vu.other Wd3 (Or.inl nud)
        replace Cu := Cu.other Wd3 (Or.inl nud)
        replace Xu := Xu.wr Wd3
        replace T0 := ext_wr T0 Wd3 gd
        clear Wd3
        refine Run.pure hK (seg := [(457, .dup, 1), (458, .iconst 4, 1), (459, .bipush 115, 2)]) (by decide +kernel) (pc' := 461) (L' := #[.val (.int i0), .val (.int i1), .val (.int i2), .val (.int a), .val (.int b), .val (.int x), .val (.int y), .val (.int g1), .val (.int g2), .val (.ref sC), .val (.ref sP), .unset, .unset, .unset]) (S' := [(.int (115 : Int32)), (.int (4 : Int32)), (.ref ad), (.ref ad), (.ref au), (.ref au)]) rfl ?_
        refine Run.cst hK Ad ⟨by decide, by decide⟩ gdz (by decide +kernel) (fun hd4 Wd4 Bd => ?_)
        replace Ad : Arv Z hd4 ad kd .char (42 : Int32) [(.int a), (.int b), (.int (105 : Int32)), (.int (116 : Int32)), (.int (115 : Int32)), (.int (0 : Int32)), (.int (0 : Int32)), (.int (0 : Int32)), (.int (0 : Int32)), (.int (0 : Int32)), (.int (0 : Int32)), (.int (0 : Int32)), (.int (0 : Int32)), (.int (0 : Int32)), (.int (0 : Int32)), (.int (0 : Int32)), (.int (0 : Int32)), (.int (0 : Int32)), (.int (0 : Int32)), (.int (0 : Int32)), (.int (0 : Int32)), (.int (0 : Int32)), (.int (0 : Int32)), (.int (0 : Int32)), (.int (0 : Int32)), (.int (0 : Int32)), (.int (0 : Int32)), (.int (0 : Int32)), (.int (0 : Int32)), (.int (0 : Int32)), (.int (0 : Int32)), (.int (0 : Int32)), (.int (0 : Int32)), (.int (0 : Int32)), (.int (0 : Int32)), (.int (0 : Int32)), (.int (0 : Int32)), (.int (0 : Int32)), (.int (0 : Int32)), (.int (0 : Int32)), (.int (0 : Int32)), (.int (0 : Int32))] (.int 0) := by exact Bd
        clear Bd
        replace Vu := Vu.other Wd4 (Or.inl nud)
        replace Cu := Cu.other Wd4 (Or.inl nud)
        replace Xu := Xu.wr Wd4
        replace T0 := ext_wr T0 Wd4 gd
        clear Wd4
        refine Run.pure hK (seg := [(462, .dup, 1), (463, .iconst 5, 1), (464, .bipush 32, 2)]) (by decide +kernel) (pc' := 466) (L' := #[.val (.int i0), .val (.int i1), .val (.int i2), .val (.int a), .val (.int b), .val (.int x), .val (.int y), .val (.int g1), .val (.int g2), .val (.ref sC), .val (.ref sP), .unset, .unset, .unset]) (S' := [(.int (32 : Int32)), (.int (5 : Int32)), (.ref ad), (.ref ad), (.ref au), (.ref au)]) rfl ?_
        refine Run.cst hK Ad ⟨by decide, by decide⟩ gdz (by decide +kernel) (fun hd5 Wd5 Bd => ?_)
        replace Ad : Arv Z hd5 ad kd .char (42 : Int32) [(.int a), (.int b), (.int (105 : Int32)), (.int (116 : Int32)), (.int (115 : Int32)), (.int (32 : Int32)), (.int (0 : Int32)), (.int (0 : Int32)), (.int (0 : Int32)), (.int (0 : Int32)), (.int (0 : Int32)), (.int (0 : Int32)), (.int (0 : Int32)), (.int (0 : Int32)), (.int (0 : Int32)), (.int (0 : Int32)), (.int (0 : Int32)), (.int (0 : Int32)), (.int (0 : Int32)), (.int (0 : Int32)), (.int (0 : Int32)), (.int (0 : Int32)), (.int (0 : Int32)), (.int (0 : Int32)), (.int (0 : Int32)), (.int (0 : Int32)), (.int (0 : Int32)), (.int (0 : Int32)), (.int (0 : Int32)), (.int (0 : Int32)), (.int (0 : Int32)), (.int (0 : Int32)), (.int (0 : Int32)), (.int (0 : Int32)), (.int (0 : Int32)), (.int (0 : Int32)), (.int (0 : Int32)), (.int (0 : Int32)), (.int (0 : Int32)), (.int (0 : Int32)), (.int (0 : Int32)), (.int (0 : Int32))] (.int 0) := by exact Bd
        clear Bd
        replace Vu := Vu.other Wd5 (Or.inl nud)
        replace Cu := Cu.other Wd5 (Or.inl nud)
        replace Xu := Xu.wr Wd5
        replace T0 := ext_wr T0 Wd5 gd
        clear Wd5
        refine Run.pure hK (seg := [(467, .dup, 1), (468, .bipush 6, 2), (470, .bipush 109, 2)]) (by decide +kernel) (pc' := 472) (L' := #[.val (.int i0), .val (.int i1), .val (.int i2), .val (.int a), .val (.int b), .val (.int x), .val (.int y), .val (.int g1), .val (.int g2), .val (.ref sC), .val (.ref sP), .unset, .unset, .unset]) (S' := [(.int (109 : Int32)), (.int (6 : Int32)), (.ref ad), (.ref ad), (.ref au), (.ref au)]) rfl ?_
        refine Run.cst hK Ad ⟨by decide, by decide⟩ gdz (by decide +kernel) (fun hd6 Wd6 Bd => ?_)
        replace Ad : Arv Z hd6 ad kd .char (42 : Int32) [(.int a), (.int b), (.int (105 : Int32)), (.int (116 : Int32)), (.int (115 : Int32)), (.int (32 : Int32)), (.int (109 : Int32)), (.int (0 : Int32)), (.int (0 : Int32)), (.int (0 : Int32)), (.int (0 : Int32)), (.int (0 : Int32)), (.int (0 : Int32)), (.int (0 : Int32)), (.int (0 : Int32)), (.int (0 : Int32)), (.int (0 : Int32)), (.int (0 : Int32)), (.int (0 : Int32)), (.int (0 : Int32)), (.int (0 : Int32)), (.int (0 : Int32)), (.int (0 : Int32)), (.int (0 : Int32)), (.int (0 : Int32)), (.int (0 : Int32)), (.int (0 : Int32)), (.int (0 : Int32)), (.int (0 : Int32)), (.int (0 : Int32)), (.int (0 : Int32)), (.int (0 : Int32)), (.int (0 : Int32)), (.int (0 : Int32)), (.int (0 : Int32)), (.int (0 : Int32)), (.int (0 : Int32)), (.int (0 : Int32)), (.int (0 : Int32)), (.int (0 : Int32)), (.int (0 : Int32)), (.int (0 : Int32))] (.int 0) := by exact Bd
        clear Bd
        replace Vu := Vu.other Wd6 (Or.inl nud)
        replace Cu := Cu.other Wd6 (Or.inl nud)
        replace Xu := Xu.wr Wd6
        replace T0 := ext_wr T0 Wd6 gd
        clear Wd6
        refine Run.pure hK (seg := [(473, .dup, 1), (474, .bipush 7, 2), (476, .bipush 97, 2)]) (by decide +kernel) (pc' := 478) (L' := #[.val (.int i0), .val (.int i1), .val (.int i2), .val (.int a), .val (.int b), .val (.int x), .val (.int y), .val (.int g1), .val (.int g2), .val (.ref sC), .val (.ref sP), .unset, .unset, .unset]) (S' := [(.int (97 : Int32)), (.int (7 : Int32)), (.ref ad), (.ref ad), (.ref au), (.ref au)]) rfl ?_
        refine Run.cst hK Ad ⟨by decide, by decide⟩ gdz (by decide +kernel) (fun hd7 Wd7 Bd => ?_)
        replace Ad : Arv Z hd7 ad kd .char (42 : Int32) [(.int a), (.int b), (.int (105 : Int32)), (.int (116 : Int32)), (.int (115 : Int32)), (.int (32 : Int32)), (.int (109 : Int32)), (.int (97 : Int32)), (.int (0 : Int32)), (.int (0 : Int32)), (.int (0 : Int32)), (.int (0 : Int32)), (.int (0 : Int32)), (.int (0 : Int32)), (.int (0 : Int32)), (.int (0 : Int32)), (.int (0 : Int32)), (.int (0 : Int32)), (.int (0 : Int32)), (.int (0 : Int32)), (.int (0 : Int32)), (.int (0 : Int32)), (.int (0 : Int32)), (.int (0 : Int32)), (.int (0 : Int32)), (.int (0 : Int32)), (.int (0 : Int32)), (.int (0 : Int32)), (.int (0 : Int32)), (.int (0 : Int32)), (.int (0 : Int32)), (.int (0 : Int32)), (.int (0 : Int32)), (.int (0 : Int32)), (.int (0 : Int32)), (.int (0 : Int32)), (.int (0 : Int32)), (.int (0 : Int32)), (.int (0 : Int32)), (.int (0 : Int32)), (.int (0 : Int32)), (.int (0 : Int32))] (.int 0) := by exact Bd
        clear Bd
        replace Vu := Vu.other Wd7 (Or.inl nud)
        replace Cu := Cu.other Wd7 (Or.inl nud)
        replace Xu := Xu.wr Wd7
        replace T0 := ext_wr T0 Wd7 gd
        clear Wd7
        refine Run.pure hK (seg := [(479, .dup, 1), (480, .bipush 8, 2), (482, .bipush 112, 2)]) (by decide +kernel) (pc' := 484) (L' := #[.val (.int i0), .val (.int i1), .val (.int i2), .val (.int a), .val (.int b), .val (.int x), .val (.int y), .val (.int g1), .val (.int g2), .val (.ref sC), .val (.ref sP), .unset, .unset, .unset]) (S' := [(.int (112 : Int32)), (.int (8 : Int32)), (.ref ad), (.ref ad), (.ref au), (.ref au)]) rfl ?_
        refine Run.cst hK Ad ⟨by decide, by decide⟩ gdz (by decide +kernel) (fun hd8 Wd8 Bd => ?_)
        replace Ad : Arv Z hd8 ad kd .char (42 : Int32) [(.int a), (.int b), (.int (105 : Int32)), (.int (116 : Int32)), (.int (115 : Int32)), (.int (32 : Int32)), (.int (109 : Int32)), (.int (97 : Int32)), (.int (112 : Int32)), (.int (0 : Int32)), (.int (0 : Int32)), (.int (0 : Int32)), (.int (0 : Int32)), (.int (0 : Int32)), (.int (0 : Int32)), (.int (0 : Int32)), (.int (0 : Int32)), (.int (0 : Int32)), (.int (0 : Int32)), (.int (0 : Int32)), (.int (0 : Int32)), (.int (0 : Int32)), (.int (0 : Int32)), (.int (0 : Int32)), (.int (0 : Int32)), (.int (0 : Int32)), (.int (0 : Int32)), (.int (0 : Int32)), (.int (0 : Int32)), (.int (0 : Int32)), (.int (0 : Int32)), (.int (0 : Int32)), (.int (0 : Int32)), (.int (0 : Int32)), (.int (0 : Int32)), (.int (0 : Int32)), (.int (0 : Int32)), (.int (0 : Int32)), (.int (0 : Int32)), (.int (0 : Int32)), (.int (0 : Int32)), (.int (0 : Int32))] (.int 0) := by exact Bd
        clear Bd
        replace Vu := Vu.other Wd8 (Or.inl nud)
        replace Cu := Cu.other Wd8 (Or.inl nud)
        replace Xu := Xu.wr Wd8
        replace T0 := ext_wr T0 Wd8 gd
        clear Wd8
        refine Run.pure hK (seg := [(485, .dup, 1), (486, .bipush 9, 2), (488, .bipush 112, 2)]) (by decide +kernel) (pc' := 490) (L' := #[.val (.int i0), .val (.int i1), .val (.int i2), .val (.int a), .val (.int b), .val (.int x), .val (.int y), .val (.int g1), .val (.int g2), .val (.ref sC), .val (.ref sP), .unset, .unset, .unset]) (S' := [(.int (112 : Int32)), (.int (9 : Int32)), (.ref ad), (.ref ad), (.ref au), (.ref au)]) rfl ?_
        refine Run.cst hK Ad ⟨by decide, by decide⟩ gdz (by decide +kernel) (fun hd9 Wd9 Bd => ?_)
        replace Ad : Arv Z hd9 ad kd .char (42 : Int32) [(.int a), (.int b), (.int (105 : Int32)), (.int (116 : Int32)), (.int (115 : Int32)), (.int (32 : Int32)), (.int (109 : Int32)), (.int (97 : Int32)), (.int (112 : Int32)), (.int (112 : Int32)), (.int (0 : Int32)), (.int (0 : Int32)), (.int (0 : Int32)), (.int (0 : Int32)), (.int (0 : Int32)), (.int (0 : Int32)), (.int (0 : Int32)), (.int (0 : Int32)), (.int (0 : Int32)), (.int (0 : Int32)), (.int (0 : Int32)), (.int (0 : Int32)), (.int (0 : Int32)), (.int (0 : Int32)), (.int (0 : Int32)), (.int (0 : Int32)), (.int (0 : Int32)), (.int (0 : Int32)), (.int (0 : Int32)), (.int (0 : Int32)), (.int (0 : Int32)), (.int (0 : Int32)), (.int (0 : Int32)), (.int (0 : Int32)), (.int (0 : Int32)), (.int (0 : Int32)), (.int (0 : Int32)), (.int (0 : Int32)), (.int (0 : Int32)), (.int (0 : Int32)), (.int (0 : Int32)), (.int (0 : Int32))] (.int 0) := by exact Bd
        clear Bd
        replace Vu := Vu.other Wd9 (Or.inl nud)
        replace Cu := Cu.other Wd9 (Or.inl nud)
        replace Xu := Xu.wr Wd9
        replace T0 := ext_wr T0 Wd9 gd
        clear Wd9
        refine Run.pure hK (seg := [(491, .dup, 1), (492, .bipush 10, 2), (494, .bipush 101, 2)]) (by decide +kernel) (pc' := 496) (L' := #[.val (.int i0), .val (.int i1), .val (.int i2), .val (.int a), .val (.int b), .val (.int x), .val (.int y), .val (.int g1), .val (.int g2), .val (.ref sC), .val (.ref sP), .unset, .unset, .unset]) (S' := [(.int (101 : Int32)), (.int (10 : Int32)), (.ref ad), (.ref ad), (.ref au), (.ref au)]) rfl ?_
        refine Run.cst hK Ad ⟨by decide, by decide⟩ gdz (by decide +kernel) (fun hd10 Wd10 Bd => ?_)
        replace Ad : Arv Z hd10 ad kd .char (42 : Int32) [(.int a), (.int b), (.int (105 : Int32)), (.int (116 : Int32)), (.int (115 : Int32)), (.int (32 : Int32)), (.int (109 : Int32)), (.int (97 : Int32)), (.int (112 : Int32)), (.int (112 : Int32)), (.int (101 : Int32)), (.int (0 : Int32)), (.int (0 : Int32)), (.int (0 : Int32)), (.int (0 : Int32)), (.int (0 : Int32)), (.int (0 : Int32)), (.int (0 : Int32)), (.int (0 : Int32)), (.int (0 : Int32)), (.int (0 : Int32)), (.int (0 : Int32)), (.int (0 : Int32)), (.int (0 : Int32)), (.int (0 : Int32)), (.int (0 : Int32)), (.int (0 : Int32)), (.int (0 : Int32)), (.int (0 : Int32)), (.int (0 : Int32)), (.int (0 : Int32)), (.int (0 : Int32)), (.int (0 : Int32)), (.int (0 : Int32)), (.int (0 : Int32)), (.int (0 : Int32)), (.int (0 : Int32)), (.int (0 : Int32)), (.int (0 : Int32)), (.int (0 : Int32)), (.int (0 : Int32)), (.int (0 : Int32))] (.int 0) := by exact Bd
        clear Bd
        replace Vu := Vu.other Wd10 (Or.inl nud)
        replace Cu := Cu.other Wd10 (Or.inl nud)
        replace Xu := Xu.wr Wd10
        replace T0 := ext_wr T0 Wd10 gd
        clear Wd10
        refine Run.pure hK (seg := [(497, .dup, 1), (498, .bipush 11, 2), (500, .bipush 100, 2)]) (by decide +kernel) (pc' := 502) (L' := #[.val (.int i0), .val (.int i1), .val (.int i2), .val (.int a), .val (.int b), .val (.int x), .val (.int y), .val (.int g1), .val (.int g2), .val (.ref sC), .val (.ref sP), .unset, .unset, .unset]) (S' := [(.int (100 : Int32)), (.int (11 : Int32)), (.ref ad), (.ref ad), (.ref au), (.ref au)]) rfl ?_
        refine Run.cst hK Ad ⟨by decide, by decide⟩ gdz (by decide +kernel) (fun hd11 Wd11 Bd => ?_)
        replace Ad : Arv Z hd11 ad kd .char (42 : Int32) [(.int a), (.int b), (.int (105 : Int32)), (.int (116 : Int32)), (.int (115 : Int32)), (.int (32 : Int32)), (.int (109 : Int32)), (.int (97 : Int32)), (.int (112 : Int32)), (.int (112 : Int32)), (.int (101 : Int32)), (.int (100 : Int32)), (.int (0 : Int32)), (.int (0 : Int32)), (.int (0 : Int32)), (.int (0 : Int32)), (.int (0 : Int32)), (.int (0 : Int32)), (.int (0 : Int32)), (.int (0 : Int32)), (.int (0 : Int32)), (.int (0 : Int32)), (.int (0 : Int32)), (.int (0 : Int32)), (.int (0 : Int32)), (.int (0 : Int32)), (.int (0 : Int32)), (.int (0 : Int32)), (.int (0 : Int32)), (.int (0 : Int32)), (.int (0 : Int32)), (.int (0 : Int32)), (.int (0 : Int32)), (.int (0 : Int32)), (.int (0 : Int32)), (.int (0 : Int32)), (.int (0 : Int32)), (.int (0 : Int32)), (.int (0 : Int32)), (.int (0 : Int32)), (.int (0 : Int32)), (.int (0 : Int32))] (.int 0) := by exact Bd
        clear Bd
        replace Vu := Vu.other Wd11 (Or.inl nud)
        replace Cu := Cu.other Wd11 (Or.inl nud)
        replace Xu := Xu.wr Wd11
        replace T0 := ext_wr T0 Wd11 gd
        clear Wd11
        refine Run.pure hK (seg := [(503, .dup, 1), (504, .bipush 12, 2), (506, .bipush 32, 2)]) (by decide +kernel) (pc' := 508) (L' := #[.val (.int i0), .val (.int i1), .val (.int i2), .val (.int a), .val (.int b), .val (.int x), .val (.int y), .val (.int g1), .val (.int g2), .val (.ref sC), .val (.ref sP), .unset, .unset, .unset]) (S' := [(.int (32 : Int32)), (.int (12 : Int32)), (.ref ad), (.ref ad), (.ref au), (.ref au)]) rfl ?_
        refine Run.cst hK Ad ⟨by decide, by decide⟩ gdz (by decide +kernel) (fun hd12 Wd12 Bd => ?_)
        replace Ad : Arv Z hd12 ad kd .char (42 : Int32) [(.int a), (.int b), (.int (105 : Int32)), (.int (116 : Int32)), (.int (115 : Int32)), (.int (32 : Int32)), (.int (109 : Int32)), (.int (97 : Int32)), (.int (112 : Int32)), (.int (112 : Int32)), (.int (101 : Int32)), (.int (100 : Int32)), (.int (32 : Int32)), (.int (0 : Int32)), (.int (0 : Int32)), (.int (0 : Int32)), (.int (0 : Int32)), (.int (0 : Int32)), (.int (0 : Int32)), (.int (0 : Int32)), (.int (0 : Int32)), (.int (0 : Int32)), (.int (0 : Int32)), (.int (0 : Int32)), (.int (0 : Int32)), (.int (0 : Int32)), (.int (0 : Int32)), (.int (0 : Int32)), (.int (0 : Int32)), (.int (0 : Int32)), (.int (0 : Int32)), (.int (0 : Int32)), (.int (0 : Int32)), (.int (0 : Int32)), (.int (0 : Int32)), (.int (0 : Int32)), (.int (0 : Int32)), (.int (0 : Int32)), (.int (0 : Int32)), (.int (0 : Int32)), (.int (0 : Int32)), (.int (0 : Int32))] (.int 0) := by exact Bd
        clear Bd
        replace Vu := Vu.other Wd12 (Or.inl nud)
        replace Cu := Cu.other Wd12 (Or.inl nud)
        replace Xu := Xu.wr Wd12
        replace T0 := ext_wr T0 Wd12 gd
        clear Wd12
        refine Run.pure hK (seg := [(509, .dup, 1), (510, .bipush 13, 2), (512, .bipush 112, 2)]) (by decide +kernel) (pc' := 514) (L' := #[.val (.int i0), .val (.int i1), .val (.int i2), .val (.int a), .val (.int b), .val (.int x), .val (.int y), .val (.int g1), .val (.int g2), .val (.ref sC), .val (.ref sP), .unset, .unset, .unset]) (S' := [(.int (112 : Int32)), (.int (13 : Int32)), (.ref ad), (.ref ad), (.ref au), (.ref au)]) rfl ?_
        refine Run.cst hK Ad ⟨by decide, by decide⟩ gdz (by decide +kernel) (fun hd13 Wd13 Bd => ?_)
        replace Ad : Arv Z hd13 ad kd .char (42 : Int32) [(.int a), (.int b), (.int (105 : Int32)), (.int (116 : Int32)), (.int (115 : Int32)), (.int (32 : Int32)), (.int (109 : Int32)), (.int (97 : Int32)), (.int (112 : Int32)), (.int (112 : Int32)), (.int (101 : Int32)), (.int (100 : Int32)), (.int (32 : Int32)), (.int (112 : Int32)), (.int (0 : Int32)), (.int (0 : Int32)), (.int (0 : Int32)), (.int (0 : Int32)), (.int (0 : Int32)), (.int (0 : Int32)), (.int (0 : Int32)), (.int (0 : Int32)), (.int (0 : Int32)), (.int (0 : Int32)), (.int (0 : Int32)), (.int (0 : Int32)), (.int (0 : Int32)), (.int (0 : Int32)), (.int (0 : Int32)), (.int (0 : Int32)), (.int (0 : Int32)), (.int (0 : Int32)), (.int (0 : Int32)), (.int (0 : Int32)), (.int (0 : Int32)), (.int (0 : Int32)), (.int (0 : Int32)), (.int (0 : Int32)), (.int (0 : Int32)), (.int (0 : Int32)), (.int (0 : Int32)), (.int (0 : Int32))] (.int 0) := by exact Bd
        clear Bd
        replace Vu := Vu.other Wd13 (Or.inl nud)
        replace Cu := Cu.other Wd13 (Or.inl nud)
        replace Xu := Xu.wr Wd13
        replace T0 := ext_wr T0 Wd13 gd
        clear Wd13
        refine Run.pure hK (seg := [(515, .dup, 1), (516, .bipush 14, 2), (518, .bipush 97, 2)]) (by decide +kernel) (pc' := 520) (L' := #[.val (.int i0), .val (.int i1), .val (.int i2), .val (.int a), .val (.int b), .val (.int x), .val (.int y), .val (.int g1), .val (.int g2), .val (.ref sC), .val (.ref sP), .unset, .unset, .unset]) (S' := [(.int (97 : Int32)), (.int (14 : Int32)), (.ref ad), (.ref ad), (.ref au), (.ref au)]) rfl ?_
        refine Run.cst hK Ad ⟨by decide, by decide⟩ gdz (by decide +kernel) (fun hd14 Wd14 Bd => ?_)
        replace Ad : Arv Z hd14 ad kd .char (42 : Int32) [(.int a), (.int b), (.int (105 : Int32)), (.int (116 : Int32)), (.int (115 : Int32)), (.int (32 : Int32)), (.int (109 : Int32)), (.int (97 : Int32)), (.int (112 : Int32)), (.int (112 : Int32)), (.int (101 : Int32)), (.int (100 : Int32)), (.int (32 : Int32)), (.int (112 : Int32)), (.int (97 : Int32)), (.int (0 : Int32)), (.int (0 : Int32)), (.int (0 : Int32)), (.int (0 : Int32)), (.int (0 : Int32)), (.int (0 : Int32)), (.int (0 : Int32)), (.int (0 : Int32)), (.int (0 : Int32)), (.int (0 : Int32)), (.int (0 : Int32)), (.int (0 : Int32)), (.int (0 : Int32)), (.int (0 : Int32)), (.int (0 : Int32)), (.int (0 : Int32)), (.int (0 : Int32)), (.int (0 : Int32)), (.int (0 : Int32)), (.int (0 : Int32)), (.int (0 : Int32)), (.int (0 : Int32)), (.int (0 : Int32)), (.int (0 : Int32)), (.int (0 : Int32)), (.int (0 : Int32)), (.int (0 : Int32))] (.int 0) := by exact Bd
        clear Bd
        replace Vu := Vu.other Wd14 (Or.inl nud)
        replace Cu := Cu.other Wd14 (Or.inl nud)
        replace Xu := Xu.wr Wd14
        replace T0 := ext_wr T0 Wd14 gd
        clear Wd14
        refine Run.pure hK (seg := [(521, .dup, 1), (522, .bipush 15, 2), (524, .bipush 116, 2)]) (by decide +kernel) (pc' := 526) (L' := #[.val (.int i0), .val (.int i1), .val (.int i2), .val (.int a), .val (.int b), .val (.int x), .val (.int y), .val (.int g1), .val (.int g2), .val (.ref sC), .val (.ref sP), .unset, .unset, .unset]) (S' := [(.int (116 : Int32)), (.int (15 : Int32)), (.ref ad), (.ref ad), (.ref au), (.ref au)]) rfl ?_
        refine Run.cst hK Ad ⟨by decide, by decide⟩ gdz (by decide +kernel) (fun hd15 Wd15 Bd => ?_)
        replace Ad : Arv Z hd15 ad kd .char (42 : Int32) [(.int a), (.int b), (.int (105 : Int32)), (.int (116 : Int32)), (.int (115 : Int32)), (.int (32 : Int32)), (.int (109 : Int32)), (.int (97 : Int32)), (.int (112 : Int32)), (.int (112 : Int32)), (.int (101 : Int32)), (.int (100 : Int32)), (.int (32 : Int32)), (.int (112 : Int32)), (.int (97 : Int32)), (.int (116 : Int32)), (.int (0 : Int32)), (.int (0 : Int32)), (.int (0 : Int32)), (.int (0 : Int32)), (.int (0 : Int32)), (.int (0 : Int32)), (.int (0 : Int32)), (.int (0 : Int32)), (.int (0 : Int32)), (.int (0 : Int32)), (.int (0 : Int32)), (.int (0 : Int32)), (.int (0 : Int32)), (.int (0 : Int32)), (.int (0 : Int32)), (.int (0 : Int32)), (.int (0 : Int32)), (.int (0 : Int32)), (.int (0 : Int32)), (.int (0 : Int32)), (.int (0 : Int32)), (.int (0 : Int32)), (.int (0 : Int32)), (.int (0 : Int32)), (.int (0 : Int32)), (.int (0 : Int32))] (.int 0) := by exact Bd
        clear Bd
        replace Vu := Vu.other Wd15 (Or.inl nud)
        replace Cu := Cu.other Wd15 (Or.inl nud)
        replace Xu := Xu.wr Wd15
        replace T0 := ext_wr T0 Wd15 gd
        clear Wd15
        refine Run.pure hK (seg := [(527, .dup, 1), (528, .bipush 16, 2), (530, .bipush 104, 2)]) (by decide +kernel) (pc' := 532) (L' := #[.val (.int i0), .val (.int i1), .val (.int i2), .val (.int a), .val (.int b), .val (.int x), .val (.int y), .val (.int g1), .val (.int g2), .val (.ref sC), .val (.ref sP), .unset, .unset, .unset]) (S' := [(.int (104 : Int32)), (.int (16 : Int32)), (.ref ad), (.ref ad), (.ref au), (.ref au)]) rfl ?_
        refine Run.cst hK Ad ⟨by decide, by decide⟩ gdz (by decide +kernel) (fun hd16 Wd16 Bd => ?_)
        replace Ad : Arv Z hd16 ad kd .char (42 : Int32) [(.int a), (.int b), (.int (105 : Int32)), (.int (116 : Int32)), (.int (115 : Int32)), (.int (32 : Int32)), (.int (109 : Int32)), (.int (97 : Int32)), (.int (112 : Int32)), (.int (112 : Int32)), (.int (101 : Int32)), (.int (100 : Int32)), (.int (32 : Int32)), (.int (112 : Int32)), (.int (97 : Int32)), (.int (116 : Int32)), (.int (104 : Int32)), (.int (0 : Int32)), (.int (0 : Int32)), (.int (0 : Int32)), (.int (0 : Int32)), (.int (0 : Int32)), (.int (0 : Int32)), (.int (0 : Int32)), (.int (0 : Int32)), (.int (0 : Int32)), (.int (0 : Int32)), (.int (0 : Int32)), (.int (0 : Int32)), (.int (0 : Int32)), (.int (0 : Int32)), (.int (0 : Int32)), (.int (0 : Int32)), (.int (0 : Int32)), (.int (0 : Int32)), (.int (0 : Int32)), (.int (0 : Int32)), (.int (0 : Int32)), (.int (0 : Int32)), (.int (0 : Int32)), (.int (0 : Int32)), (.int (0 : Int32))] (.int 0) := by exact Bd
        clear Bd
        replace Vu := Vu.other Wd16 (Or.inl nud)
        replace Cu := Cu.other Wd16 (Or.inl nud)
        replace Xu := Xu.wr Wd16
        replace T0 := ext_wr T0 Wd16 gd
        clear Wd16
        refine Run.pure hK (seg := [(533, .dup, 1), (534, .bipush 17, 2), (536, .bipush 32, 2)]) (by decide +kernel) (pc' := 538) (L' := #[.val (.int i0), .val (.int i1), .val (.int i2), .val (.int a), .val (.int b), .val (.int x), .val (.int y), .val (.int g1), .val (.int g2), .val (.ref sC), .val (.ref sP), .unset, .unset, .unset]) (S' := [(.int (32 : Int32)), (.int (17 : Int32)), (.ref ad), (.ref ad), (.ref au), (.ref au)]) rfl ?_
        refine Run.cst hK Ad ⟨by decide, by decide⟩ gdz (by decide +kernel) (fun hd17 Wd17 Bd => ?_)
        replace Ad : Arv Z hd17 ad kd .char (42 : Int32) [(.int a), (.int b), (.int (105 : Int32)), (.int (116 : Int32)), (.int (115 : Int32)), (.int (32 : Int32)), (.int (109 : Int32)), (.int (97 : Int32)), (.int (112 : Int32)), (.int (112 : Int32)), (.int (101 : Int32)), (.int (100 : Int32)), (.int (32 : Int32)), (.int (112 : Int32)), (.int (97 : Int32)), (.int (116 : Int32)), (.int (104 : Int32)), (.int (32 : Int32)), (.int (0 : Int32)), (.int (0 : Int32)), (.int (0 : Int32)), (.int (0 : Int32)), (.int (0 : Int32)), (.int (0 : Int32)), (.int (0 : Int32)), (.int (0 : Int32)), (.int (0 : Int32)), (.int (0 : Int32)), (.int (0 : Int32)), (.int (0 : Int32)), (.int (0 : Int32)), (.int (0 : Int32)), (.int (0 : Int32)), (.int (0 : Int32)), (.int (0 : Int32)), (.int (0 : Int32)), (.int (0 : Int32)), (.int (0 : Int32)), (.int (0 : Int32)), (.int (0 : Int32)), (.int (0 : Int32)), (.int (0 : Int32))] (.int 0) := by exact Bd
        clear Bd
        replace Vu := Vu.other Wd17 (Or.inl nud)
        replace Cu := Cu.other Wd17 (Or.inl nud)
        replace Xu := Xu.wr Wd17
        replace T0 := ext_wr T0 Wd17 gd
        clear Wd17
        refine Run.pure hK (seg := [(539, .dup, 1), (540, .bipush 18, 2), (542, .bipush 34, 2)]) (by decide +kernel) (pc' := 544) (L' := #[.val (.int i0), .val (.int i1), .val (.int i2), .val (.int a), .val (.int b), .val (.int x), .val (.int y), .val (.int g1), .val (.int g2), .val (.ref sC), .val (.ref sP), .unset, .unset, .unset]) (S' := [(.int (34 : Int32)), (.int (18 : Int32)), (.ref ad), (.ref ad), (.ref au), (.ref au)]) rfl ?_
        refine Run.cst hK Ad ⟨by decide, by decide⟩ gdz (by decide +kernel) (fun hd18 Wd18 Bd => ?_)
        replace Ad : Arv Z hd18 ad kd .char (42 : Int32) [(.int a), (.int b), (.int (105 : Int32)), (.int (116 : Int32)), (.int (115 : Int32)), (.int (32 : Int32)), (.int (109 : Int32)), (.int (97 : Int32)), (.int (112 : Int32)), (.int (112 : Int32)), (.int (101 : Int32)), (.int (100 : Int32)), (.int (32 : Int32)), (.int (112 : Int32)), (.int (97 : Int32)), (.int (116 : Int32)), (.int (104 : Int32)), (.int (32 : Int32)), (.int (34 : Int32)), (.int (0 : Int32)), (.int (0 : Int32)), (.int (0 : Int32)), (.int (0 : Int32)), (.int (0 : Int32)), (.int (0 : Int32)), (.int (0 : Int32)), (.int (0 : Int32)), (.int (0 : Int32)), (.int (0 : Int32)), (.int (0 : Int32)), (.int (0 : Int32)), (.int (0 : Int32)), (.int (0 : Int32)), (.int (0 : Int32)), (.int (0 : Int32)), (.int (0 : Int32)), (.int (0 : Int32)), (.int (0 : Int32)), (.int (0 : Int32)), (.int (0 : Int32)), (.int (0 : Int32)), (.int (0 : Int32))] (.int 0) := by exact Bd
        clear Bd
        replace Vu := Vu.other Wd18 (Or.inl nud)
        replace Cu := Cu.other Wd18 (Or.inl nud)
        replace Xu := Xu.wr Wd18
        replace T0 := ext_wr T0 Wd18 gd
        clear Wd18
        refine Run.pure hK (seg := [(545, .dup, 1), (546, .bipush 19, 2), (548, .bipush 34, 2)]) (by decide +kernel) (pc' := 550) (L' := #[.val (.int i0), .val (.int i1), .val (.int i2), .val (.int a), .val (.int b), .val (.int x), .val (.int y), .val (.int g1), .val (.int g2), .val (.ref sC), .val (.ref sP), .unset, .unset, .unset]) (S' := [(.int (34 : Int32)), (.int (19 : Int32)), (.ref ad), (.ref ad), (.ref au), (.ref au)]) rfl ?_
        refine Run.cst hK Ad ⟨by decide, by decide⟩ gdz (by decide +kernel) (fun hd19 Wd19 Bd => ?_)
        replace Ad : Arv Z hd19 ad kd .char (42 : Int32) [(.int a), (.int b), (.int (105 : Int32)), (.int (116 : Int32)), (.int (115 : Int32)), (.int (32 : Int32)), (.int (109 : Int32)), (.int (97 : Int32)), (.int (112 : Int32)), (.int (112 : Int32)), (.int (101 : Int32)), (.int (100 : Int32)), (.int (32 : Int32)), (.int (112 : Int32)), (.int (97 : Int32)), (.int (116 : Int32)), (.int (104 : Int32)), (.int (32 : Int32)), (.int (34 : Int32)), (.int (34 : Int32)), (.int (0 : Int32)), (.int (0 : Int32)), (.int (0 : Int32)), (.int (0 : Int32)), (.int (0 : Int32)), (.int (0 : Int32)), (.int (0 : Int32)), (.int (0 : Int32)), (.int (0 : Int32)), (.int (0 : Int32)), (.int (0 : Int32)), (.int (0 : Int32)), (.int (0 : Int32)), (.int (0 : Int32)), (.int (0 : Int32)), (.int (0 : Int32)), (.int (0 : Int32)), (.int (0 : Int32)), (.int (0 : Int32)), (.int (0 : Int32)), (.int (0 : Int32)), (.int (0 : Int32))] (.int 0) := by exact Bd
        clear Bd
        replace Vu := Vu.other Wd19 (Or.inl nud)
        replace Cu := Cu.other Wd19 (Or.inl nud)
        replace Xu := Xu.wr Wd19
        replace T0 := ext_wr T0 Wd19 gd
        clear Wd19
        refine Run.pure hK (seg := [(551, .dup, 1), (552, .bipush 20, 2), (554, .bipush 32, 2)]) (by decide +kernel) (pc' := 556) (L' := #[.val (.int i0), .val (.int i1), .val (.int i2), .val (.int a), .val (.int b), .val (.int x), .val (.int y), .val (.int g1), .val (.int g2), .val (.ref sC), .val (.ref sP), .unset, .unset, .unset]) (S' := [(.int (32 : Int32)), (.int (20 : Int32)), (.ref ad), (.ref ad), (.ref au), (.ref au)]) rfl ?_
        refine Run.cst hK Ad ⟨by decide, by decide⟩ gdz (by decide +kernel) (fun hd20 Wd20 Bd => ?_)
        replace Ad : Arv Z hd20 ad kd .char (42 : Int32) [(.int a), (.int b), (.int (105 : Int32)), (.int (116 : Int32)), (.int (115 : Int32)), (.int (32 : Int32)), (.int (109 : Int32)), (.int (97 : Int32)), (.int (112 : Int32)), (.int (112 : Int32)), (.int (101 : Int32)), (.int (100 : Int32)), (.int (32 : Int32)), (.int (112 : Int32)), (.int (97 : Int32)), (.int (116 : Int32)), (.int (104 : Int32)), (.int (32 : Int32)), (.int (34 : Int32)), (.int (34 : Int32)), (.int (32 : Int32)), (.int (0 : Int32)), (.int (0 : Int32)), (.int (0 : Int32)), (.int (0 : Int32)), (.int (0 : Int32)), (.int (0 : Int32)), (.int (0 : Int32)), (.int (0 : Int32)), (.int (0 : Int32)), (.int (0 : Int32)), (.int (0 : Int32)), (.int (0 : Int32)), (.int (0 : Int32)), (.int (0 : Int32)), (.int (0 : Int32)), (.int (0 : Int32)), (.int (0 : Int32)), (.int (0 : Int32)), (.int (0 : Int32)), (.int (0 : Int32)), (.int (0 : Int32))] (.int 0) := by exact Bd
        clear Bd
        replace Vu := Vu.other Wd20 (Or.inl nud)
        replace Cu := Cu.other Wd20 (Or.inl nud)
        replace Xu := Xu.wr Wd20
        replace T0 := ext_wr T0 Wd20 gd
        clear Wd20
        refine Run.pure hK (seg := [(557, .dup, 1), (558, .bipush 21, 2), (560, .bipush 100, 2)]) (by decide +kernel) (pc' := 562) (L' := #[.val (.int i0), .val (.int i1), .val (.int i2), .val (.int a), .val (.int b), .val (.int x), .val (.int y), .val (.int g1), .val (.int g2), .val (.ref sC), .val (.ref sP), .unset, .unset, .unset]) (S' := [(.int (100 : Int32)), (.int (21 : Int32)), (.ref ad), (.ref ad), (.ref au), (.ref au)]) rfl ?_
        refine Run.cst hK Ad ⟨by decide, by decide⟩ gdz (by decide +kernel) (fun hd21 Wd21 Bd => ?_)
        replace Ad : Arv Z hd21 ad kd .char (42 : Int32) [(.int a), (.int b), (.int (105 : Int32)), (.int (116 : Int32)), (.int (115 : Int32)), (.int (32 : Int32)), (.int (109 : Int32)), (.int (97 : Int32)), (.int (112 : Int32)), (.int (112 : Int32)), (.int (101 : Int32)), (.int (100 : Int32)), (.int (32 : Int32)), (.int (112 : Int32)), (.int (97 : Int32)), (.int (116 : Int32)), (.int (104 : Int32)), (.int (32 : Int32)), (.int (34 : Int32)), (.int (34 : Int32)), (.int (32 : Int32)), (.int (100 : Int32)), (.int (0 : Int32)), (.int (0 : Int32)), (.int (0 : Int32)), (.int (0 : Int32)), (.int (0 : Int32)), (.int (0 : Int32)), (.int (0 : Int32)), (.int (0 : Int32)), (.int (0 : Int32)), (.int (0 : Int32)), (.int (0 : Int32)), (.int (0 : Int32)), (.int (0 : Int32)), (.int (0 : Int32)), (.int (0 : Int32)), (.int (0 : Int32)), (.int (0 : Int32)), (.int (0 : Int32)), (.int (0 : Int32)), (.int (0 : Int32))] (.int 0) := by exact Bd
        clear Bd
        replace Vu := Vu.other Wd21 (Or.inl nud)
        replace Cu := Cu.other Wd21 (Or.inl nud)
        replace Xu := Xu.wr Wd21
        replace T0 := ext_wr T0 Wd21 gd
        clear Wd21
        refine Run.pure hK (seg := [(563, .dup, 1), (564, .bipush 22, 2), (566, .bipush 111, 2)]) (by decide +kernel) (pc' := 568) (L' := #[.val (.int i0), .val (.int i1), .val (.int i2), .val (.int a), .val (.int b), .val (.int x), .val (.int y), .val (.int g1), .val (.int g2), .val (.ref sC), .val (.ref sP), .unset, .unset, .unset]) (S' := [(.int (111 : Int32)), (.int (22 : Int32)), (.ref ad), (.ref ad), (.ref au), (.ref au)]) rfl ?_
        refine Run.cst hK Ad ⟨by decide, by decide⟩ gdz (by decide +kernel) (fun hd22 Wd22 Bd => ?_)
        replace Ad : Arv Z hd22 ad kd .char (42 : Int32) [(.int a), (.int b), (.int (105 : Int32)), (.int (116 : Int32)), (.int (115 : Int32)), (.int (32 : Int32)), (.int (109 : Int32)), (.int (97 : Int32)), (.int (112 : Int32)), (.int (112 : Int32)), (.int (101 : Int32)), (.int (100 : Int32)), (.int (32 : Int32)), (.int (112 : Int32)), (.int (97 : Int32)), (.int (116 : Int32)), (.int (104 : Int32)), (.int (32 : Int32)), (.int (34 : Int32)), (.int (34 : Int32)), (.int (32 : Int32)), (.int (100 : Int32)), (.int (111 : Int32)), (.int (0 : Int32)), (.int (0 : Int32)), (.int (0 : Int32)), (.int (0 : Int32)), (.int (0 : Int32)), (.int (0 : Int32)), (.int (0 : Int32)), (.int (0 : Int32)), (.int (0 : Int32)), (.int (0 : Int32)), (.int (0 : Int32)), (.int (0 : Int32)), (.int (0 : Int32)), (.int (0 : Int32)), (.int (0 : Int32)), (.int (0 : Int32)), (.int (0 : Int32)), (.int (0 : Int32)), (.int (0 : Int32))] (.int 0) := by exact Bd
        clear Bd
        replace Vu := Vu.other Wd22 (Or.inl nud)
        replace Cu := Cu.other Wd22 (Or.inl nud)
        replace Xu := Xu.wr Wd22
        replace T0 := ext_wr T0 Wd22 gd
        clear Wd22
        refine Run.pure hK (seg := [(569, .dup, 1), (570, .bipush 23, 2), (572, .bipush 101, 2)]) (by decide +kernel) (pc' := 574) (L' := #[.val (.int i0), .val (.int i1), .val (.int i2), .val (.int a), .val (.int b), .val (.int x), .val (.int y), .val (.int g1), .val (.int g2), .val (.ref sC), .val (.ref sP), .unset, .unset, .unset]) (S' := [(.int (101 : Int32)), (.int (23 : Int32)), (.ref ad), (.ref ad), (.ref au), (.ref au)]) rfl ?_
        refine Run.cst hK Ad ⟨by decide, by decide⟩ gdz (by decide +kernel) (fun hd23 Wd23 Bd => ?_)
        replace Ad : Arv Z hd23 ad kd .char (42 : Int32) [(.int a), (.int b), (.int (105 : Int32)), (.int (116 : Int32)), (.int (115 : Int32)), (.int (32 : Int32)), (.int (109 : Int32)), (.int (97 : Int32)), (.int (112 : Int32)), (.int (112 : Int32)), (.int (101 : Int32)), (.int (100 : Int32)), (.int (32 : Int32)), (.int (112 : Int32)), (.int (97 : Int32)), (.int (116 : Int32)), (.int (104 : Int32)), (.int (32 : Int32)), (.int (34 : Int32)), (.int (34 : Int32)), (.int (32 : Int32)), (.int (100 : Int32)), (.int (111 : Int32)), (.int (101 : Int32)), (.int (0 : Int32)), (.int (0 : Int32)), (.int (0 : Int32)), (.int (0 : Int32)), (.int (0 : Int32)), (.int (0 : Int32)), (.int (0 : Int32)), (.int (0 : Int32)), (.int (0 : Int32)), (.int (0 : Int32)), (.int (0 : Int32)), (.int (0 : Int32)), (.int (0 : Int32)), (.int (0 : Int32)), (.int (0 : Int32)), (.int (0 : Int32)), (.int (0 : Int32)), (.int (0 : Int32))] (.int 0) := by exact Bd
        clear Bd
        replace Vu := Vu.other Wd23 (Or.inl nud)
        replace Cu := Cu.other Wd23 (Or.inl nud)
        replace Xu := Xu.wr Wd23
        replace T0 := ext_wr T0 Wd23 gd
        clear Wd23
        refine Run.pure hK (seg := [(575, .dup, 1), (576, .bipush 24, 2), (578, .bipush 115, 2)]) (by decide +kernel) (pc' := 580) (L' := #[.val (.int i0), .val (.int i1), .val (.int i2), .val (.int a), .val (.int b), .val (.int x), .val (.int y), .val (.int g1), .val (.int g2), .val (.ref sC), .val (.ref sP), .unset, .unset, .unset]) (S' := [(.int (115 : Int32)), (.int (24 : Int32)), (.ref ad), (.ref ad), (.ref au), (.ref au)]) rfl ?_
        refine Run.cst hK Ad ⟨by decide, by decide⟩ gdz (by decide +kernel) (fun hd24 Wd24 Bd => ?_)
        replace Ad : Arv Z hd24 ad kd .char (42 : Int32) [(.int a), (.int b), (.int (105 : Int32)), (.int (116 : Int32)), (.int (115 : Int32)), (.int (32 : Int32)), (.int (109 : Int32)), (.int (97 : Int32)), (.int (112 : Int32)), (.int (112 : Int32)), (.int (101 : Int32)), (.int (100 : Int32)), (.int (32 : Int32)), (.int (112 : Int32)), (.int (97 : Int32)), (.int (116 : Int32)), (.int (104 : Int32)), (.int (32 : Int32)), (.int (34 : Int32)), (.int (34 : Int32)), (.int (32 : Int32)), (.int (100 : Int32)), (.int (111 : Int32)), (.int (101 : Int32)), (.int (115 : Int32)), (.int (0 : Int32)), (.int (0 : Int32)), (.int (0 : Int32)), (.int (0 : Int32)), (.int (0 : Int32)), (.int (0 : Int32)), (.int (0 : Int32)), (.int (0 : Int32)), (.int (0 : Int32)), (.int (0 : Int32)), (.int (0 : Int32)), (.int (0 : Int32)), (.int (0 : Int32)), (.int (0 : Int32)), (.int (0 : Int32)), (.int (0 : Int32)), (.int (0 : Int32))] (.int 0) := by exact Bd
        clear Bd
        replace Vu := Vu.other Wd24 (Or.inl nud)
        replace Cu := Cu.other Wd24 (Or.inl nud)
        replace Xu := Xu.wr Wd24
        replace T0 := ext_wr T0 Wd24 gd
        clear Wd24
        refine Run.pure hK (seg := [(581, .dup, 1), (582, .bipush 25, 2), (584, .bipush 32, 2)]) (by decide +kernel) (pc' := 586) (L' := #[.val (.int i0), .val (.int i1), .val (.int i2), .val (.int a), .val (.int b), .val (.int x), .val (.int y), .val (.int g1), .val (.int g2), .val (.ref sC), .val (.ref sP), .unset, .unset, .unset]) (S' := [(.int (32 : Int32)), (.int (25 : Int32)), (.ref ad), (.ref ad), (.ref au), (.ref au)]) rfl ?_
        refine Run.cst hK Ad ⟨by decide, by decide⟩ gdz (by decide +kernel) (fun hd25 Wd25 Bd => ?_)
        replace Ad : Arv Z hd25 ad kd .char (42 : Int32) [(.int a), (.int b), (.int (105 : Int32)), (.int (116 : Int32)), (.int (115 : Int32)), (.int (32 : Int32)), (.int (109 : Int32)), (.int (97 : Int32)), (.int (112 : Int32)), (.int (112 : Int32)), (.int (101 : Int32)), (.int (100 : Int32)), (.int (32 : Int32)), (.int (112 : Int32)), (.int (97 : Int32)), (.int (116 : Int32)), (.int (104 : Int32)), (.int (32 : Int32)), (.int (34 : Int32)), (.int (34 : Int32)), (.int (32 : Int32)), (.int (100 : Int32)), (.int (111 : Int32)), (.int (101 : Int32)), (.int (115 : Int32)), (.int (32 : Int32)), (.int (0 : Int32)), (.int (0 : Int32)), (.int (0 : Int32)), (.int (0 : Int32)), (.int (0 : Int32)), (.int (0 : Int32)), (.int (0 : Int32)), (.int (0 : Int32)), (.int (0 : Int32)), (.int (0 : Int32)), (.int (0 : Int32)), (.int (0 : Int32)), (.int (0 : Int32)), (.int (0 : Int32)), (.int (0 : Int32)), (.int (0 : Int32))] (.int 0) := by exact Bd
        clear Bd
        replace Vu := Vu.other Wd25 (Or.inl nud)
        replace Cu := Cu.other Wd25 (Or.inl nud)
        replace Xu := Xu.wr Wd25
        replace T0 := ext_wr T0 Wd25 gd
        clear Wd25
        refine Run.pure hK (seg := [(587, .dup, 1), (588, .bipush 26, 2), (590, .bipush 110, 2)]) (by decide +kernel) (pc' := 592) (L' := #[.val (.int i0), .val (.int i1), .val (.int i2), .val (.int a), .val (.int b), .val (.int x), .val (.int y), .val (.int g1), .val (.int g2), .val (.ref sC), .val (.ref sP), .unset, .unset, .unset]) (S' := [(.int (110 : Int32)), (.int (26 : Int32)), (.ref ad), (.ref ad), (.ref au), (.ref au)]) rfl ?_
        refine Run.cst hK Ad ⟨by decide, by decide⟩ gdz (by decide +kernel) (fun hd26 Wd26 Bd => ?_)
        replace Ad : Arv Z hd26 ad kd .char (42 : Int32) [(.int a), (.int b), (.int (105 : Int32)), (.int (116 : Int32)), (.int (115 : Int32)), (.int (32 : Int32)), (.int (109 : Int32)), (.int (97 : Int32)), (.int (112 : Int32)), (.int (112 : Int32)), (.int (101 : Int32)), (.int (100 : Int32)), (.int (32 : Int32)), (.int (112 : Int32)), (.int (97 : Int32)), (.int (116 : Int32)), (.int (104 : Int32)), (.int (32 : Int32)), (.int (34 : Int32)), (.int (34 : Int32)), (.int (32 : Int32)), (.int (100 : Int32)), (.int (111 : Int32)), (.int (101 : Int32)), (.int (115 : Int32)), (.int (32 : Int32)), (.int (110 : Int32)), (.int (0 : Int32)), (.int (0 : Int32)), (.int (0 : Int32)), (.int (0 : Int32)), (.int (0 : Int32)), (.int (0 : Int32)), (.int (0 : Int32)), (.int (0 : Int32)), (.int (0 : Int32)), (.int (0 : Int32)), (.int (0 : Int32)), (.int (0 : Int32)), (.int (0 : Int32)), (.int (0 : Int32)), (.int (0 : Int32))] (.int 0) := by exact Bd
        clear Bd
        replace Vu := Vu.other Wd26 (Or.inl nud)
        replace Cu := Cu.other Wd26 (Or.inl nud)
        replace Xu := Xu.wr Wd26
        replace T0 := ext_wr T0 Wd26 gd
        clear Wd26
        refine Run.pure hK (seg := [(593, .dup, 1), (594, .bipush 27, 2), (596, .bipush 111, 2)]) (by decide +kernel) (pc' := 598) (L' := #[.val (.int i0), .val (.int i1), .val (.int i2), .val (.int a), .val (.int b), .val (.int x), .val (.int y), .val (.int g1), .val (.int g2), .val (.ref sC), .val (.ref sP), .unset, .unset, .unset]) (S' := [(.int (111 : Int32)), (.int (27 : Int32)), (.ref ad), (.ref ad), (.ref au), (.ref au)]) rfl ?_
        refine Run.cst hK Ad ⟨by decide, by decide⟩ gdz (by decide +kernel) (fun hd27 Wd27 Bd => ?_)
        replace Ad : Arv Z hd27 ad kd .char (42 : Int32) [(.int a), (.int b), (.int (105 : Int32)), (.int (116 : Int32)), (.int (115 : Int32)), (.int (32 : Int32)), (.int (109 : Int32)), (.int (97 : Int32)), (.int (112 : Int32)), (.int (112 : Int32)), (.int (101 : Int32)), (.int (100 : Int32)), (.int (32 : Int32)), (.int (112 : Int32)), (.int (97 : Int32)), (.int (116 : Int32)), (.int (104 : Int32)), (.int (32 : Int32)), (.int (34 : Int32)), (.int (34 : Int32)), (.int (32 : Int32)), (.int (100 : Int32)), (.int (111 : Int32)), (.int (101 : Int32)), (.int (115 : Int32)), (.int (32 : Int32)), (.int (110 : Int32)), (.int (111 : Int32)), (.int (0 : Int32)), (.int (0 : Int32)), (.int (0 : Int32)), (.int (0 : Int32)), (.int (0 : Int32)), (.int (0 : Int32)), (.int (0 : Int32)), (.int (0 : Int32)), (.int (0 : Int32)), (.int (0 : Int32)), (.int (0 : Int32)), (.int (0 : Int32)), (.int (0 : Int32)), (.int (0 : Int32))] (.int 0) := by exact Bd
        clear Bd
        replace Vu := Vu.other Wd27 (Or.inl nud)
        replace Cu := Cu.other Wd27 (Or.inl nud)
        replace Xu := Xu.wr Wd27
        replace T0 := ext_wr T0 Wd27 gd
        clear Wd27
        refine Run.pure hK (seg := [(599, .dup, 1), (600, .bipush 28, 2), (602, .bipush 116, 2)]) (by decide +kernel) (pc' := 604) (L' := #[.val (.int i0), .val (.int i1), .val (.int i2), .val (.int a), .val (.int b), .val (.int x), .val (.int y), .val (.int g1), .val (.int g2), .val (.ref sC), .val (.ref sP), .unset, .unset, .unset]) (S' := [(.int (116 : Int32)), (.int (28 : Int32)), (.ref ad), (.ref ad), (.ref au), (.ref au)]) rfl ?_
        refine Run.cst hK Ad ⟨by decide, by decide⟩ gdz (by decide +kernel) (fun hd28 Wd28 Bd => ?_)
        replace Ad : Arv Z hd28 ad kd .char (42 : Int32) [(.int a), (.int b), (.int (105 : Int32)), (.int (116 : Int32)), (.int (115 : Int32)), (.int (32 : Int32)), (.int (109 : Int32)), (.int (97 : Int32)), (.int (112 : Int32)), (.int (112 : Int32)), (.int (101 : Int32)), (.int (100 : Int32)), (.int (32 : Int32)), (.int (112 : Int32)), (.int (97 : Int32)), (.int (116 : Int32)), (.int (104 : Int32)), (.int (32 : Int32)), (.int (34 : Int32)), (.int (34 : Int32)), (.int (32 : Int32)), (.int (100 : Int32)), (.int (111 : Int32)), (.int (101 : Int32)), (.int (115 : Int32)), (.int (32 : Int32)), (.int (110 : Int32)), (.int (111 : Int32)), (.int (116 : Int32)), (.int (0 : Int32)), (.int (0 : Int32)), (.int (0 : Int32)), (.int (0 : Int32)), (.int (0 : Int32)), (.int (0 : Int32)), (.int (0 : Int32)), (.int (0 : Int32)), (.int (0 : Int32)), (.int (0 : Int32)), (.int (0 : Int32)), (.int (0 : Int32)), (.int (0 : Int32))] (.int 0) := by exact Bd
        clear Bd
        replace Vu := Vu.other Wd28 (Or.inl nud)
        replace Cu := Cu.other Wd28 (Or.inl nud)
        replace Xu := Xu.wr Wd28
        replace T0 := ext_wr T0 Wd28 gd
        clear Wd28
        refine Run.pure hK (seg := [(605, .dup, 1), (606, .bipush 29, 2), (608, .bipush 32, 2)]) (by decide +kernel) (pc' := 610) (L' := #[.val (.int i0), .val (.int i1), .val (.int i2), .val (.int a), .val (.int b), .val (.int x), .val (.int y), .val (.int g1), .val (.int g2), .val (.ref sC), .val (.ref sP), .unset, .unset, .unset]) (S' := [(.int (32 : Int32)), (.int (29 : Int32)), (.ref ad), (.ref ad), (.ref au), (.ref au)]) rfl ?_
        refine Run.cst hK Ad ⟨by decide, by decide⟩ gdz (by decide +kernel) (fun hd29 Wd29 Bd => ?_)
        replace Ad : Arv Z hd29 ad kd .char (42 : Int32) [(.int a), (.int b), (.int (105 : Int32)), (.int (116 : Int32)), (.int (115 : Int32)), (.int (32 : Int32)), (.int (109 : Int32)), (.int (97 : Int32)), (.int (112 : Int32)), (.int (112 : Int32)), (.int (101 : Int32)), (.int (100 : Int32)), (.int (32 : Int32)), (.int (112 : Int32)), (.int (97 : Int32)), (.int (116 : Int32)), (.int (104 : Int32)), (.int (32 : Int32)), (.int (34 : Int32)), (.int (34 : Int32)), (.int (32 : Int32)), (.int (100 : Int32)), (.int (111 : Int32)), (.int (101 : Int32)), (.int (115 : Int32)), (.int (32 : Int32)), (.int (110 : Int32)), (.int (111 : Int32)), (.int (116 : Int32)), (.int (32 : Int32)), (.int (0 : Int32)), (.int (0 : Int32)), (.int (0 : Int32)), (.int (0 : Int32)), (.int (0 : Int32)), (.int (0 : Int32)), (.int (0 : Int32)), (.int (0 : Int32)), (.int (0 : Int32)), (.int (0 : Int32)), (.int (0 : Int32)), (.int (0 : Int32))] (.int 0) := by exact Bd
        clear Bd
        replace Vu := Vu.other Wd29 (Or.inl nud)
        replace Cu := Cu.other Wd29 (Or.inl nud)
        replace Xu := Xu.wr Wd29
        replace T0 := ext_wr T0 Wd29 gd
        clear Wd29
        refine Run.pure hK (seg := [(611, .dup, 1), (612, .bipush 30, 2), (614, .bipush 115, 2)]) (by decide +kernel) (pc' := 616) (L' := #[.val (.int i0), .val (.int i1), .val (.int i2), .val (.int a), .val (.int b), .val (.int x), .val (.int y), .val (.int g1), .val (.int g2), .val (.ref sC), .val (.ref sP), .unset, .unset, .unset]) (S' := [(.int (115 : Int32)), (.int (30 : Int32)), (.ref ad), (.ref ad), (.ref au), (.ref au)]) rfl ?_
        refine Run.cst hK Ad ⟨by decide, by decide⟩ gdz (by decide +kernel) (fun hd30 Wd30 Bd => ?_)
        replace Ad : Arv Z hd30 ad kd .char (42 : Int32) [(.int a), (.int b), (.int (105 : Int32)), (.int (116 : Int32)), (.int (115 : Int32)), (.int (32 : Int32)), (.int (109 : Int32)), (.int (97 : Int32)), (.int (112 : Int32)), (.int (112 : Int32)), (.int (101 : Int32)), (.int (100 : Int32)), (.int (32 : Int32)), (.int (112 : Int32)), (.int (97 : Int32)), (.int (116 : Int32)), (.int (104 : Int32)), (.int (32 : Int32)), (.int (34 : Int32)), (.int (34 : Int32)), (.int (32 : Int32)), (.int (100 : Int32)), (.int (111 : Int32)), (.int (101 : Int32)), (.int (115 : Int32)), (.int (32 : Int32)), (.int (110 : Int32)), (.int (111 : Int32)), (.int (116 : Int32)), (.int (32 : Int32)), (.int (115 : Int32)), (.int (0 : Int32)), (.int (0 : Int32)), (.int (0 : Int32)), (.int (0 : Int32)), (.int (0 : Int32)), (.int (0 : Int32)), (.int (0 : Int32)), (.int (0 : Int32)), (.int (0 : Int32)), (.int (0 : Int32)), (.int (0 : Int32))] (.int 0) := by exact Bd
        clear Bd
        replace Vu := Vu.other Wd30 (Or.inl nud)
        replace Cu := Cu.other Wd30 (Or.inl nud)
        replace Xu := Xu.wr Wd30
        replace T0 := ext_wr T0 Wd30 gd
        clear Wd30
        refine Run.pure hK (seg := [(617, .dup, 1), (618, .bipush 31, 2), (620, .bipush 116, 2)]) (by decide +kernel) (pc' := 622) (L' := #[.val (.int i0), .val (.int i1), .val (.int i2), .val (.int a), .val (.int b), .val (.int x), .val (.int y), .val (.int g1), .val (.int g2), .val (.ref sC), .val (.ref sP), .unset, .unset, .unset]) (S' := [(.int (116 : Int32)), (.int (31 : Int32)), (.ref ad), (.ref ad), (.ref au), (.ref au)]) rfl ?_
        refine Run.cst hK Ad ⟨by decide, by decide⟩ gdz (by decide +kernel) (fun hd31 Wd31 Bd => ?_)
        replace Ad : Arv Z hd31 ad kd .char (42 : Int32) [(.int a), (.int b), (.int (105 : Int32)), (.int (116 : Int32)), (.int (115 : Int32)), (.int (32 : Int32)), (.int (109 : Int32)), (.int (97 : Int32)), (.int (112 : Int32)), (.int (112 : Int32)), (.int (101 : Int32)), (.int (100 : Int32)), (.int (32 : Int32)), (.int (112 : Int32)), (.int (97 : Int32)), (.int (116 : Int32)), (.int (104 : Int32)), (.int (32 : Int32)), (.int (34 : Int32)), (.int (34 : Int32)), (.int (32 : Int32)), (.int (100 : Int32)), (.int (111 : Int32)), (.int (101 : Int32)), (.int (115 : Int32)), (.int (32 : Int32)), (.int (110 : Int32)), (.int (111 : Int32)), (.int (116 : Int32)), (.int (32 : Int32)), (.int (115 : Int32)), (.int (116 : Int32)), (.int (0 : Int32)), (.int (0 : Int32)), (.int (0 : Int32)), (.int (0 : Int32)), (.int (0 : Int32)), (.int (0 : Int32)), (.int (0 : Int32)), (.int (0 : Int32)), (.int (0 : Int32)), (.int (0 : Int32))] (.int 0) := by exact Bd
        clear Bd
        replace Vu := Vu.other Wd31 (Or.inl nud)
        replace Cu := Cu.other Wd31 (Or.inl nud)
        replace Xu := Xu.wr Wd31
        replace T0 := ext_wr T0 Wd31 gd
        clear Wd31
        refine Run.pure hK (seg := [(623, .dup, 1), (624, .bipush 32, 2), (626, .bipush 97, 2)]) (by decide +kernel) (pc' := 628) (L' := #[.val (.int i0), .val (.int i1), .val (.int i2), .val (.int a), .val (.int b), .val (.int x), .val (.int y), .val (.int g1), .val (.int g2), .val (.ref sC), .val (.ref sP), .unset, .unset, .unset]) (S' := [(.int (97 : Int32)), (.int (32 : Int32)), (.ref ad), (.ref ad), (.ref au), (.ref au)]) rfl ?_
        refine Run.cst hK Ad ⟨by decide, by decide⟩ gdz (by decide +kernel) (fun hd32 Wd32 Bd => ?_)
        replace Ad : Arv Z hd32 ad kd .char (42 : Int32) [(.int a), (.int b), (.int (105 : Int32)), (.int (116 : Int32)), (.int (115 : Int32)), (.int (32 : Int32)), (.int (109 : Int32)), (.int (97 : Int32)), (.int (112 : Int32)), (.int (112 : Int32)), (.int (101 : Int32)), (.int (100 : Int32)), (.int (32 : Int32)), (.int (112 : Int32)), (.int (97 : Int32)), (.int (116 : Int32)), (.int (104 : Int32)), (.int (32 : Int32)), (.int (34 : Int32)), (.int (34 : Int32)), (.int (32 : Int32)), (.int (100 : Int32)), (.int (111 : Int32)), (.int (101 : Int32)), (.int (115 : Int32)), (.int (32 : Int32)), (.int (110 : Int32)), (.int (111 : Int32)), (.int (116 : Int32)), (.int (32 : Int32)), (.int (115 : Int32)), (.int (116 : Int32)), (.int (97 : Int32)), (.int (0 : Int32)), (.int (0 : Int32)), (.int (0 : Int32)), (.int (0 : Int32)), (.int (0 : Int32)), (.int (0 : Int32)), (.int (0 : Int32)), (.int (0 : Int32)), (.int (0 : Int32))] (.int 0) := by exact Bd
        clear Bd
        replace Vu := Vu.other Wd32 (Or.inl nud)
        replace Cu := Cu.other Wd32 (Or.inl nud)
        replace Xu := Xu.wr Wd32
        replace T0 := ext_wr T0 Wd32 gd
        clear Wd32
        refine Run.pure hK (seg := [(629, .dup, 1), (630, .bipush 33, 2), (632, .bipush 114, 2)]) (by decide +kernel) (pc' := 634) (L' := #[.val (.int i0), .val (.int i1), .val (.int i2), .val (.int a), .val (.int b), .val (.int x), .val (.int y), .val (.int g1), .val (.int g2), .val (.ref sC), .val (.ref sP), .unset, .unset, .unset]) (S' := [(.int (114 : Int32)), (.int (33 : Int32)), (.ref ad), (.ref ad), (.ref au), (.ref au)]) rfl ?_
        refine Run.cst hK Ad ⟨by decide, by decide⟩ gdz (by decide +kernel) (fun hd33 Wd33 Bd => ?_)
        replace Ad : Arv Z hd33 ad kd .char (42 : Int32) [(.int a), (.int b), (.int (105 : Int32)), (.int (116 : Int32)), (.int (115 : Int32)), (.int (32 : Int32)), (.int (109 : Int32)), (.int (97 : Int32)), (.int (112 : Int32)), (.int (112 : Int32)), (.int (101 : Int32)), (.int (100 : Int32)), (.int (32 : Int32)), (.int (112 : Int32)), (.int (97 : Int32)), (.int (116 : Int32)), (.int (104 : Int32)), (.int (32 : Int32)), (.int (34 : Int32)), (.int (34 : Int32)), (.int (32 : Int32)), (.int (100 : Int32)), (.int (111 : Int32)), (.int (101 : Int32)), (.int (115 : Int32)), (.int (32 : Int32)), (.int (110 : Int32)), (.int (111 : Int32)), (.int (116 : Int32)), (.int (32 : Int32)), (.int (115 : Int32)), (.int (116 : Int32)), (.int (97 : Int32)), (.int (114 : Int32)), (.int (0 : Int32)), (.int (0 : Int32)), (.int (0 : Int32)), (.int (0 : Int32)), (.int (0 : Int32)), (.int (0 : Int32)), (.int (0 : Int32)), (.int (0 : Int32))] (.int 0) := by exact Bd
        clear Bd
        replace Vu := Vu.other Wd33 (Or.inl nud)
        replace Cu := Cu.other Wd33 (Or.inl nud)
        replace Xu := Xu.wr Wd33
        replace T0 := ext_wr T0 Wd33 gd
        clear Wd33
        refine Run.pure hK (seg := [(635, .dup, 1), (636, .bipush 34, 2), (638, .bipush 116, 2)]) (by decide +kernel) (pc' := 640) (L' := #[.val (.int i0), .val (.int i1), .val (.int i2), .val (.int a), .val (.int b), .val (.int x), .val (.int y), .val (.int g1), .val (.int g2), .val (.ref sC), .val (.ref sP), .unset, .unset, .unset]) (S' := [(.int (116 : Int32)), (.int (34 : Int32)), (.ref ad), (.ref ad), (.ref au), (.ref au)]) rfl ?_
        refine Run.cst hK Ad ⟨by decide, by decide⟩ gdz (by decide +kernel) (fun hd34 Wd34 Bd => ?_)
        replace Ad : Arv Z hd34 ad kd .char (42 : Int32) [(.int a), (.int b), (.int (105 : Int32)), (.int (116 : Int32)), (.int (115 : Int32)), (.int (32 : Int32)), (.int (109 : Int32)), (.int (97 : Int32)), (.int (112 : Int32)), (.int (112 : Int32)), (.int (101 : Int32)), (.int (100 : Int32)), (.int (32 : Int32)), (.int (112 : Int32)), (.int (97 : Int32)), (.int (116 : Int32)), (.int (104 : Int32)), (.int (32 : Int32)), (.int (34 : Int32)), (.int (34 : Int32)), (.int (32 : Int32)), (.int (100 : Int32)), (.int (111 : Int32)), (.int (101 : Int32)), (.int (115 : Int32)), (.int (32 : Int32)), (.int (110 : Int32)), (.int (111 : Int32)), (.int (116 : Int32)), (.int (32 : Int32)), (.int (115 : Int32)), (.int (116 : Int32)), (.int (97 : Int32)), (.int (114 : Int32)), (.int (116 : Int32)), (.int (0 : Int32)), (.int (0 : Int32)), (.int (0 : Int32)), (.int (0 : Int32)), (.int (0 : Int32)), (.int (0 : Int32)), (.int (0 : Int32))] (.int 0) := by exact Bd
        clear Bd
        replace Vu := Vu.other Wd34 (Or.inl nud)
        replace Cu := Cu.other Wd34 (Or.inl nud)
        replace Xu := Xu.wr Wd34
        replace T0 := ext_wr T0 Wd34 gd
        clear Wd34
        refine Run.pure hK (seg := [(641, .dup, 1), (642, .bipush 35, 2), (644, .bipush 32, 2)]) (by decide +kernel) (pc' := 646) (L' := #[.val (.int i0), .val (.int i1), .val (.int i2), .val (.int a), .val (.int b), .val (.int x), .val (.int y), .val (.int g1), .val (.int g2), .val (.ref sC), .val (.ref sP), .unset, .unset, .unset]) (S' := [(.int (32 : Int32)), (.int (35 : Int32)), (.ref ad), (.ref ad), (.ref au), (.ref au)]) rfl ?_
        refine Run.cst hK Ad ⟨by decide, by decide⟩ gdz (by decide +kernel) (fun hd35 Wd35 Bd => ?_)
        replace Ad : Arv Z hd35 ad kd .char (42 : Int32) [(.int a), (.int b), (.int (105 : Int32)), (.int (116 : Int32)), (.int (115 : Int32)), (.int (32 : Int32)), (.int (109 : Int32)), (.int (97 : Int32)), (.int (112 : Int32)), (.int (112 : Int32)), (.int (101 : Int32)), (.int (100 : Int32)), (.int (32 : Int32)), (.int (112 : Int32)), (.int (97 : Int32)), (.int (116 : Int32)), (.int (104 : Int32)), (.int (32 : Int32)), (.int (34 : Int32)), (.int (34 : Int32)), (.int (32 : Int32)), (.int (100 : Int32)), (.int (111 : Int32)), (.int (101 : Int32)), (.int (115 : Int32)), (.int (32 : Int32)), (.int (110 : Int32)), (.int (111 : Int32)), (.int (116 : Int32)), (.int (32 : Int32)), (.int (115 : Int32)), (.int (116 : Int32)), (.int (97 : Int32)), (.int (114 : Int32)), (.int (116 : Int32)), (.int (32 : Int32)), (.int (0 : Int32)), (.int (0 : Int32)), (.int (0 : Int32)), (.int (0 : Int32)), (.int (0 : Int32)), (.int (0 : Int32))] (.int 0) := by exact Bd
        clear Bd
        replace Vu := Vu.other Wd35 (Or.inl nud)
        replace Cu := Cu.other Wd35 (Or.inl nud)
        replace Xu := Xu.wr Wd35
        replace T0 := ext_wr T0 Wd35 gd
        clear Wd35
        refine Run.pure hK (seg := [(647, .dup, 1), (648, .bipush 36, 2), (650, .bipush 119, 2)]) (by decide +kernel) (pc' := 652) (L' := #[.val (.int i0), .val (.int i1), .val (.int i2), .val (.int a), .val (.int b), .val (.int x), .val (.int y), .val (.int g1), .val (.int g2), .val (.ref sC), .val (.ref sP), .unset, .unset, .unset]) (S' := [(.int (119 : Int32)), (.int (36 : Int32)), (.ref ad), (.ref ad), (.ref au), (.ref au)]) rfl ?_
        refine Run.cst hK Ad ⟨by decide, by decide⟩ gdz (by decide +kernel) (fun hd36 Wd36 Bd => ?_)
        replace Ad : Arv Z hd36 ad kd .char (42 : Int32) [(.int a), (.int b), (.int (105 : Int32)), (.int (116 : Int32)), (.int (115 : Int32)), (.int (32 : Int32)), (.int (109 : Int32)), (.int (97 : Int32)), (.int (112 : Int32)), (.int (112 : Int32)), (.int (101 : Int32)), (.int (100 : Int32)), (.int (32 : Int32)), (.int (112 : Int32)), (.int (97 : Int32)), (.int (116 : Int32)), (.int (104 : Int32)), (.int (32 : Int32)), (.int (34 : Int32)), (.int (34 : Int32)), (.int (32 : Int32)), (.int (100 : Int32)), (.int (111 : Int32)), (.int (101 : Int32)), (.int (115 : Int32)), (.int (32 : Int32)), (.int (110 : Int32)), (.int (111 : Int32)), (.int (116 : Int32)), (.int (32 : Int32)), (.int (115 : Int32)), (.int (116 : Int32)), (.int (97 : Int32)), (.int (114 : Int32)), (.int (116 : Int32)), (.int (32 : Int32)), (.int (119 : Int32)), (.int (0 : Int32)), (.int (0 : Int32)), (.int (0 : Int32)), (.int (0 : Int32)), (.int (0 : Int32))] (.int 0) := by exact Bd
        clear Bd
        replace Vu := Vu.other Wd36 (Or.inl nud)
        replace Cu := Cu.other Wd36 (Or.inl nud)
        replace Xu := Xu.wr Wd36
        replace T0 := ext_wr T0 Wd36 gd
        clear Wd36
        refine Run.pure hK (seg := [(653, .dup, 1), (654, .bipush 37, 2), (656, .bipush 105, 2)]) (by decide +kernel) (pc' := 658) (L' := #[.val (.int i0), .val (.int i1), .val (.int i2), .val (.int a), .val (.int b), .val (.int x), .val (.int y), .val (.int g1), .val (.int g2), .val (.ref sC), .val (.ref sP), .unset, .unset, .unset]) (S' := [(.int (105 : Int32)), (.int (37 : Int32)), (.ref ad), (.ref ad), (.ref au), (.ref au)]) rfl ?_
        refine Run.cst hK Ad ⟨by decide, by decide⟩ gdz (by decide +kernel) (fun hd37 Wd37 Bd => ?_)
        replace Ad : Arv Z hd37 ad kd .char (42 : Int32) [(.int a), (.int b), (.int (105 : Int32)), (.int (116 : Int32)), (.int (115 : Int32)), (.int (32 : Int32)), (.int (109 : Int32)), (.int (97 : Int32)), (.int (112 : Int32)), (.int (112 : Int32)), (.int (101 : Int32)), (.int (100 : Int32)), (.int (32 : Int32)), (.int (112 : Int32)), (.int (97 : Int32)), (.int (116 : Int32)), (.int (104 : Int32)), (.int (32 : Int32)), (.int (34 : Int32)), (.int (34 : Int32)), (.int (32 : Int32)), (.int (100 : Int32)), (.int (111 : Int32)), (.int (101 : Int32)), (.int (115 : Int32)), (.int (32 : Int32)), (.int (110 : Int32)), (.int (111 : Int32)), (.int (116 : Int32)), (.int (32 : Int32)), (.int (115 : Int32)), (.int (116 : Int32)), (.int (97 : Int32)), (.int (114 : Int32)), (.int (116 : Int32)), (.int (32 : Int32)), (.int (119 : Int32)), (.int (105 : Int32)), (.int (0 : Int32)), (.int (0 : Int32)), (.int (0 : Int32)), (.int (0 : Int32))] (.int 0) := by exact Bd
        clear Bd
        replace Vu := Vu.other Wd37 (Or.inl nud)
        replace Cu := Cu.other Wd37 (Or.inl nud)
        replace Xu := Xu.wr Wd37
        replace T0 := ext_wr T0 Wd37 gd
        clear Wd37
        refine Run.pure hK (seg := [(659, .dup, 1), (660, .bipush 38, 2), (662, .bipush 116, 2)]) (by decide +kernel) (pc' := 664) (L' := #[.val (.int i0), .val (.int i1), .val (.int i2), .val (.int a), .val (.int b), .val (.int x), .val (.int y), .val (.int g1), .val (.int g2), .val (.ref sC), .val (.ref sP), .unset, .unset, .unset]) (S' := [(.int (116 : Int32)), (.int (38 : Int32)), (.ref ad), (.ref ad), (.ref au), (.ref au)]) rfl ?_
        refine Run.cst hK Ad ⟨by decide, by decide⟩ gdz (by decide +kernel) (fun hd38 Wd38 Bd => ?_)
        replace Ad : Arv Z hd38 ad kd .char (42 : Int32) [(.int a), (.int b), (.int (105 : Int32)), (.int (116 : Int32)), (.int (115 : Int32)), (.int (32 : Int32)), (.int (109 : Int32)), (.int (97 : Int32)), (.int (112 : Int32)), (.int (112 : Int32)), (.int (101 : Int32)), (.int (100 : Int32)), (.int (32 : Int32)), (.int (112 : Int32)), (.int (97 : Int32)), (.int (116 : Int32)), (.int (104 : Int32)), (.int (32 : Int32)), (.int (34 : Int32)), (.int (34 : Int32)), (.int (32 : Int32)), (.int (100 : Int32)), (.int (111 : Int32)), (.int (101 : Int32)), (.int (115 : Int32)), (.int (32 : Int32)), (.int (110 : Int32)), (.int (111 : Int32)), (.int (116 : Int32)), (.int (32 : Int32)), (.int (115 : Int32)), (.int (116 : Int32)), (.int (97 : Int32)), (.int (114 : Int32)), (.int (116 : Int32)), (.int (32 : Int32)), (.int (119 : Int32)), (.int (105 : Int32)), (.int (116 : Int32)), (.int (0 : Int32)), (.int (0 : Int32)), (.int (0 : Int32))] (.int 0) := by exact Bd
        clear Bd
        replace Vu := Vu.other Wd38 (Or.inl nud)
        replace Cu := Cu.other Wd38 (Or.inl nud)
        replace Xu := Xu.wr Wd38
        replace T0 := ext_wr T0 Wd38 gd
        clear Wd38
        refine Run.pure hK (seg := [(665, .dup, 1), (666, .bipush 39, 2), (668, .bipush 104, 2)]) (by decide +kernel) (pc' := 670) (L' := #[.val (.int i0), .val (.int i1), .val (.int i2), .val (.int a), .val (.int b), .val (.int x), .val (.int y), .val (.int g1), .val (.int g2), .val (.ref sC), .val (.ref sP), .unset, .unset, .unset]) (S' := [(.int (104 : Int32)), (.int (39 : Int32)), (.ref ad), (.ref ad), (.ref au), (.ref au)]) rfl ?_
        refine Run.cst hK Ad ⟨by decide, by decide⟩ gdz (by decide +kernel) (fun hd39 Wd39 Bd => ?_)
        replace Ad : Arv Z hd39 ad kd .char (42 : Int32) [(.int a), (.int b), (.int (105 : Int32)), (.int (116 : Int32)), (.int (115 : Int32)), (.int (32 : Int32)), (.int (109 : Int32)), (.int (97 : Int32)), (.int (112 : Int32)), (.int (112 : Int32)), (.int (101 : Int32)), (.int (100 : Int32)), (.int (32 : Int32)), (.int (112 : Int32)), (.int (97 : Int32)), (.int (116 : Int32)), (.int (104 : Int32)), (.int (32 : Int32)), (.int (34 : Int32)), (.int (34 : Int32)), (.int (32 : Int32)), (.int (100 : Int32)), (.int (111 : Int32)), (.int (101 : Int32)), (.int (115 : Int32)), (.int (32 : Int32)), (.int (110 : Int32)), (.int (111 : Int32)), (.int (116 : Int32)), (.int (32 : Int32)), (.int (115 : Int32)), (.int (116 : Int32)), (.int (97 : Int32)), (.int (114 : Int32)), (.int (116 : Int32)), (.int (32 : Int32)), (.int (119 : Int32)), (.int (105 : Int32)), (.int (116 : Int32)), (.int (104 : Int32)), (.int (0 : Int32)), (.int (0 : Int32))] (.int 0) := by exact Bd
        clear Bd
        replace Vu := Vu.other Wd39 (Or.inl nud)
        replace Cu := Cu.other Wd39 (Or.inl nud)
        replace Xu := Xu.wr Wd39
        replace T0 := ext_wr T0 Wd39 gd
        clear Wd39
        refine Run.pure hK (seg := [(671, .dup, 1), (672, .bipush 40, 2), (674, .bipush 32, 2)]) (by decide +kernel) (pc' := 676) (L' := #[.val (.int i0), .val (.int i1), .val (.int i2), .val (.int a), .val (.int b), .val (.int x), .val (.int y), .val (.int g1), .val (.int g2), .val (.ref sC), .val (.ref sP), .unset, .unset, .unset]) (S' := [(.int (32 : Int32)), (.int (40 : Int32)), (.ref ad), (.ref ad), (.ref au), (.ref au)]) rfl ?_
        refine Run.cst hK Ad ⟨by decide, by decide⟩ gdz (by decide +kernel) (fun hd40 Wd40 Bd => ?_)
        replace Ad : Arv Z hd40 ad kd .char (42 : Int32) [(.int a), (.int b), (.int (105 : Int32)), (.int (116 : Int32)), (.int (115 : Int32)), (.int (32 : Int32)), (.int (109 : Int32)), (.int (97 : Int32)), (.int (112 : Int32)), (.int (112 : Int32)), (.int (101 : Int32)), (.int (100 : Int32)), (.int (32 : Int32)), (.int (112 : Int32)), (.int (97 : Int32)), (.int (116 : Int32)), (.int (104 : Int32)), (.int (32 : Int32)), (.int (34 : Int32)), (.int (34 : Int32)), (.int (32 : Int32)), (.int (100 : Int32)), (.int (111 : Int32)), (.int (101 : Int32)), (.int (115 : Int32)), (.int (32 : Int32)), (.int (110 : Int32)), (.int (111 : Int32)), (.int (116 : Int32)), (.int (32 : Int32)), (.int (115 : Int32)), (.int (116 : Int32)), (.int (97 : Int32)), (.int (114 : Int32)), (.int (116 : Int32)), (.int (32 : Int32)), (.int (119 : Int32)), (.int (105 : Int32)), (.int (116 : Int32)), (.int (104 : Int32)), (.int (32 : Int32)), (.int (0 : Int32))] (.int 0) := by exact Bd
        clear Bd
        replace Vu := Vu.other Wd40 (Or.inl nud)
        replace Cu := Cu.other Wd40 (Or.inl nud)
        replace Xu := Xu.wr Wd40
        replace T0 := ext_wr T0 Wd40 gd
        clear Wd40
        refine Run.pure hK (seg := [(677, .dup, 1), (678, .bipush 41, 2), (680, .bipush 47, 2)]) (by decide +kernel) (pc' := 682) (L' := #[.val (.int i0), .val (.int i1), .val (.int i2), .val (.int a), .val (.int b), .val (.int x), .val (.int y), .val (.int g1), .val (.int g2), .val (.ref sC), .val (.ref sP), .unset, .unset, .unset]) (S' := [(.int (47 : Int32)), (.int (41 : Int32)), (.ref ad), (.ref ad), (.ref au), (.ref au)]) rfl ?_
        refine Run.cst hK Ad ⟨by decide, by decide⟩ gdz (by decide +kernel) (fun hd41 Wd41 Bd => ?_)
        replace Ad : Arv Z hd41 ad kd .char (42 : Int32) [(.int a), (.int b), (.int (105 : Int32)), (.int (116 : Int32)), (.int (115 : Int32)), (.int (32 : Int32)), (.int (109 : Int32)), (.int (97 : Int32)), (.int (112 : Int32)), (.int (112 : Int32)), (.int (101 : Int32)), (.int (100 : Int32)), (.int (32 : Int32)), (.int (112 : Int32)), (.int (97 : Int32)), (.int (116 : Int32)), (.int (104 : Int32)), (.int (32 : Int32)), (.int (34 : Int32)), (.int (34 : Int32)), (.int (32 : Int32)), (.int (100 : Int32)), (.int (111 : Int32)), (.int (101 : Int32)), (.int (115 : Int32)), (.int (32 : Int32)), (.int (110 : Int32)), (.int (111 : Int32)), (.int (116 : Int32)), (.int (32 : Int32)), (.int (115 : Int32)), (.int (116 : Int32)), (.int (97 : Int32)), (.int (114 : Int32)), (.int (116 : Int32)), (.int (32 : Int32)), (.int (119 : Int32)), (.int (105 : Int32)), (.int (116 : Int32)), (.int (104 : Int32)), (.int (32 : Int32)), (.int (47 : Int32))] (.int 0) := by exact Bd
        clear Bd
        replace Vu := Vu.other Wd41 (Or.inl nud)
        replace Cu := Cu.other Wd41 (Or.inl nud)
        replace Xu := Xu.wr Wd41
        replace T0 := ext_wr T0 Wd41 gd
        clear Wd41
        refine Run.special hK (index := 9) (y := (⟨"java/lang/String", "<init>", "([C)V"⟩ : MethodName)) (Wt := 1) (kc := 4) (ks := 44) rfl (hw _ (List.mem_of_getElem? (i := 4) rfl)) (hw _ (List.mem_of_getElem? (i := 5) rfl)) (hw _ (List.mem_of_getElem? (i := 6) rfl)) (by decide) (a := au) (fun _ q => q) (cal_newS G (cs := [a, b, (105 : Int32), (116 : Int32), (115 : Int32), (32 : Int32), (109 : Int32), (97 : Int32), (112 : Int32), (112 : Int32), (101 : Int32), (100 : Int32), (32 : Int32), (112 : Int32), (97 : Int32), (116 : Int32), (104 : Int32), (32 : Int32), (34 : Int32), (34 : Int32), (32 : Int32), (100 : Int32), (111 : Int32), (101 : Int32), (115 : Int32), (32 : Int32), (110 : Int32), (111 : Int32), (116 : Int32), (32 : Int32), (115 : Int32), (116 : Int32), (97 : Int32), (114 : Int32), (116 : Int32), (32 : Int32), (119 : Int32), (105 : Int32), (116 : Int32), (104 : Int32), (32 : Int32), (47 : Int32)]) (Nat.le_trans hO5.1 gu) (by simp) Xu Vu Cu Ad rfl (Nat.le_of_ble_eq_true rfl) (fun c hc => by simp only [List.mem_cons, List.not_mem_nil, or_false] at hc; rcases hc with rfl | rfl | rfl | rfl | rfl | rfl | rfl | rfl | rfl | rfl | rfl | rfl | rfl | rfl | rfl | rfl | rfl | rfl | rfl | rfl | rfl | rfl | rfl | rfl | rfl | rfl | rfl | rfl | rfl | rfl | rfl | rfl | rfl | rfl | rfl | rfl | rfl | rfl | rfl | rfl | rfl | rfl <;> first | decide | exact b_a | exact b_b) (by decide) (by decide) (kc := 4) (ks := 44) (by decide) (by decide) (Nat.le_of_ble_eq_true rfl)) rfl (argsL := [(.ref ad)]) (rest := [(.ref au)]) (lenOf pd_s1 rfl) rfl (Nat.le_of_ble_eq_true rfl) (by decide +kernel) (by decide) (by decide) (fun vi hi qi ni => ?_)
        obtain ⟨rfl, Fi, Ki⟩ := qi
        have Ti := ext_keep T0 Ki (fun x hx => by cases List.mem_singleton.mp hx; exact gu)
        refine Run.pure hK (seg := [(686, .astore 11, 2), (688, .goto 517, 3)]) (by decide +kernel) (pc' := 1205) (L' := #[.val (.int i0), .val (.int i1), .val (.int i2), .val (.int a), .val (.int b), .val (.int x), .val (.int y), .val (.int g1), .val (.int g2), .val (.ref sC), .val (.ref sP), .val (.ref au), .unset, .unset]) (S' := []) rfl ?_
        refine Run.less (W' := []) ?_ (fun _ q => nomatch q)
        refine Run.mono (s5 _ _ ?_ Ti) (by decide) (by decide)
        rw [Cn1 r1, Cn0 r2]; exact Fi
      · replace r2 := (h_eq _ _).2 r2
        refine Run.new hK (index := 7) (C := "java/lang/String") (n := 4) (hw _ (List.mem_of_getElem? (i := 0) rfl)) (hw _ (List.mem_of_getElem? (i := 1) rfl)) (hw _ (List.mem_of_getElem? (i := 2) rfl)) (by decide +kernel) (by decide) (by decide) (fun hu Eu Xu Du => ?_)
        obtain ⟨au, zu⟩ : ∃ z, z = f4.size := ⟨_, rfl⟩
        rw [← zu]
        rw [← zu] at Xu Du
        refine Run.pure hK (seg := [(155, .dup, 1), (156, .bipush 44, 2)]) (by decide +kernel) (pc' := 158) (L' := #[.val (.int i0), .val (.int i1), .val (.int i2), .val (.int a), .val (.int b), .val (.int x), .val (.int y), .val (.int g1), .val (.int g2), .val (.ref sC), .val (.ref sP), .unset, .unset, .unset]) (S' := [(.int (44 : Int32)), (.ref au), (.ref au)]) rfl ?_
        have Vu := Du (Or.inr (hw _ (List.mem_of_getElem? (i := 16) rfl))) (ty := .array .byte) (by decide)
        have Cu := Du (Or.inr (hw _ (List.mem_of_getElem? (i := 17) rfl))) (ty := .byte) (by decide)
        refine Run.newarr hK (aty := .char) (hw _ (List.mem_of_getElem? (i := 3) rfl)) (by decide +kernel) (by decide) (cap := 44) (by decide) (by decide) (by decide) (by decide) (fun hd kd Ed Ad => ?_)
        obtain ⟨ad, zd⟩ : ∃ z, z = hu.size := ⟨_, rfl⟩
        rw [← zd]
        rw [← zd] at Ad
        have nud : au ≠ ad := fun z => absurd Xu.lt (by rw [z, zd]; exact Nat.lt_irrefl _)
        have gd : f4.size ≤ ad := by rw [zd]; exact Eu.1
        have gu : f4.size ≤ au := by rw [zu]; exact Nat.le_refl _
        replace Xu := Xu.ext Ed
        replace Vu := Vu.ext Ed
        replace Cu := Cu.ext Ed
        have T0 := Ext.tr Eu Ed
        have gdz := Nat.le_trans hO5.1 gd
        refine Run.pure hK (seg := [(160, .dup, 1), (161, .iconst 0, 1), (162, .iload_n 3, 1)]) (by decide +kernel) (pc' := 163) (L' := #[.val (.int i0), .val (.int i1), .val (.int i2), .val (.int a), .val (.int b), .val (.int x), .val (.int y), .val (.int g1), .val (.int g2), .val (.ref sC), .val (.ref sP), .unset, .unset, .unset]) (S' := [(.int a), (.int (0 : Int32)), (.ref ad), (.ref ad), (.ref au), (.ref au)]) rfl ?_
        refine Run.cst hK Ad ⟨by decide, by decide⟩ gdz (by decide +kernel) (fun hd0 Wd0 Bd => ?_)
        replace Ad : Arv Z hd0 ad kd .char (44 : Int32) [(.int a), (.int (0 : Int32)), (.int (0 : Int32)), (.int (0 : Int32)), (.int (0 : Int32)), (.int (0 : Int32)), (.int (0 : Int32)), (.int (0 : Int32)), (.int (0 : Int32)), (.int (0 : Int32)), (.int (0 : Int32)), (.int (0 : Int32)), (.int (0 : Int32)), (.int (0 : Int32)), (.int (0 : Int32)), (.int (0 : Int32)), (.int (0 : Int32)), (.int (0 : Int32)), (.int (0 : Int32)), (.int (0 : Int32)), (.int (0 : Int32)), (.int (0 : Int32)), (.int (0 : Int32)), (.int (0 : Int32)), (.int (0 : Int32)), (.int (0 : Int32)), (.int (0 : Int32)), (.int (0 : Int32)), (.int (0 : Int32)), (.int (0 : Int32)), (.int (0 : Int32)), (.int (0 : Int32)), (.int (0 : Int32)), (.int (0 : Int32)), (.int (0 : Int32)), (.int (0 : Int32)), (.int (0 : Int32)), (.int (0 : Int32)), (.int (0 : Int32)), (.int (0 : Int32)), (.int (0 : Int32)), (.int (0 : Int32)), (.int (0 : Int32)), (.int (0 : Int32))] (.int 0) := by rw [nc b_a] at Bd; exact Bd
        clear Bd
        replace Vu := Vu.other Wd0 (Or.inl nud)
        replace Cu := Cu.other Wd0 (Or.inl nud)
        replace Xu := Xu.wr Wd0
        replace T0 := ext_wr T0 Wd0 gd
        clear Wd0
        refine Run.pure hK (seg := [(164, .dup, 1), (165, .iconst 1, 1), (166, .iload 4, 2)]) (by decide +kernel) (pc' := 168) (L' := #[.val (.int i0), .val (.int i1), .val (.int i2), .val (.int a), .val (.int b), .val (.int x), .val (.int y), .val (.int g1), .val (.int g2), .val (.ref sC), .val (.ref sP), .unset, .unset, .unset]) (S' := [(.int b), (.int (1 : Int32)), (.ref ad), (.ref ad), (.ref au), (.ref au)]) rfl ?_
        refine Run.cst hK Ad ⟨by decide, by decide⟩ gdz (by decide +kernel) (fun hd1 Wd1 Bd => ?_)
        replace Ad : Arv Z hd1 ad kd .char (44 : Int32) [(.int a), (.int b), (.int (0 : Int32)), (.int (0 : Int32)), (.int (0 : Int32)), (.int (0 : Int32)), (.int (0 : Int32)), (.int (0 : Int32)), (.int (0 : Int32)), (.int (0 : Int32)), (.int (0 : Int32)), (.int (0 : Int32)), (.int (0 : Int32)), (.int (0 : Int32)), (.int (0 : Int32)), (.int (0 : Int32)), (.int (0 : Int32)), (.int (0 : Int32)), (.int (0 : Int32)), (.int (0 : Int32)), (.int (0 : Int32)), (.int (0 : Int32)), (.int (0 : Int32)), (.int (0 : Int32)), (.int (0 : Int32)), (.int (0 : Int32)), (.int (0 : Int32)), (.int (0 : Int32)), (.int (0 : Int32)), (.int (0 : Int32)), (.int (0 : Int32)), (.int (0 : Int32)), (.int (0 : Int32)), (.int (0 : Int32)), (.int (0 : Int32)), (.int (0 : Int32)), (.int (0 : Int32)), (.int (0 : Int32)), (.int (0 : Int32)), (.int (0 : Int32)), (.int (0 : Int32)), (.int (0 : Int32)), (.int (0 : Int32)), (.int (0 : Int32))] (.int 0) := by rw [nc b_b] at Bd; exact Bd
        clear Bd
        replace Vu := Vu.other Wd1 (Or.inl nud)
        replace Cu := Cu.other Wd1 (Or.inl nud)
        replace Xu := Xu.wr Wd1
        replace T0 := ext_wr T0 Wd1 gd
        clear Wd1
        refine Run.pure hK (seg := [(169, .dup, 1), (170, .iconst 2, 1), (171, .bipush 105, 2)]) (by decide +kernel) (pc' := 173) (L' := #[.val (.int i0), .val (.int i1), .val (.int i2), .val (.int a), .val (.int b), .val (.int x), .val (.int y), .val (.int g1), .val (.int g2), .val (.ref sC), .val (.ref sP), .unset, .unset, .unset]) (S' := [(.int (105 : Int32)), (.int (2 : Int32)), (.ref ad), (.ref ad), (.ref au), (.ref au)]) rfl ?_
        refine Run.cst hK Ad ⟨by decide, by decide⟩ gdz (by decide +kernel) (fun hd2 Wd2 Bd => ?_)
        replace Ad : Arv Z hd2 ad kd .char (44 : Int32) [(.int a), (.int b), (.int (105 : Int32)), (.int (0 : Int32)), (.int (0 : Int32)), (.int (0 : Int32)), (.int (0 : Int32)), (.int (0 : Int32)), (.int (0 : Int32)), (.int (0 : Int32)), (.int (0 : Int32)), (.int (0 : Int32)), (.int (0 : Int32)), (.int (0 : Int32)), (.int (0 : Int32)), (.int (0 : Int32)), (.int (0 : Int32)), (.int (0 : Int32)), (.int (0 : Int32)), (.int (0 : Int32)), (.int (0 : Int32)), (.int (0 : Int32)), (.int (0 : Int32)), (.int (0 : Int32)), (.int (0 : Int32)), (.int (0 : Int32)), (.int (0 : Int32)), (.int (0 : Int32)), (.int (0 : Int32)), (.int (0 : Int32)), (.int (0 : Int32)), (.int (0 : Int32)), (.int (0 : Int32)), (.int (0 : Int32)), (.int (0 : Int32)), (.int (0 : Int32)), (.int (0 : Int32)), (.int (0 : Int32)), (.int (0 : Int32)), (.int (0 : Int32)), (.int (0 : Int32)), (.int (0 : Int32)), (.int (0 : Int32)), (.int (0 : Int32))] (.int 0) := by exact Bd
        clear Bd
        replace Vu := Vu.other Wd2 (Or.inl nud)
        replace Cu := Cu.other Wd2 (Or.inl nud)
        replace Xu := Xu.wr Wd2
        replace T0 := ext_wr T0 Wd2 gd
        clear Wd2
        refine Run.pure hK (seg := [(174, .dup, 1), (175, .iconst 3, 1), (176, .bipush 116, 2)]) (by decide +kernel) (pc' := 178) (L' := #[.val (.int i0), .val (.int i1), .val (.int i2), .val (.int a), .val (.int b), .val (.int x), .val (.int y), .val (.int g1), .val (.int g2), .val (.ref sC), .val (.ref sP), .unset, .unset, .unset]) (S' := [(.int (116 : Int32)), (.int (3 : Int32)), (.ref ad), (.ref ad), (.ref au), (.ref au)]) rfl ?_
        refine Run.cst hK Ad ⟨by decide, by decide⟩ gdz (by decide +kernel) (fun hd3 Wd3 Bd => ?_)
        replace Ad : Arv Z hd3 ad kd .char (44 : Int32) [(.int a), (.int b), (.int (105 : Int32)), (.int (116 : Int32)), (.int (0 : Int32)), (.int (0 : Int32)), (.int (0 : Int32)), (.int (0 : Int32)), (.int (0 : Int32)), (.int (0 : Int32)), (.int (0 : Int32)), (.int (0 : Int32)), (.int (0 : Int32)), (.int (0 : Int32)), (.int (0 : Int32)), (.int (0 : Int32)), (.int (0 : Int32)), (.int (0 : Int32)), (.int (0 : Int32)), (.int (0 : Int32)), (.int (0 : Int32)), (.int (0 : Int32)), (.int (0 : Int32)), (.int (0 : Int32)), (.int (0 : Int32)), (.int (0 : Int32)), (.int (0 : Int32)), (.int (0 : Int32)), (.int (0 : Int32)), (.int (0 : Int32)), (.int (0 : Int32)), (.int (0 : Int32)), (.int (0 : Int32)), (.int (0 : Int32)), (.int (0 : Int32)), (.int (0 : Int32)), (.int (0 : Int32)), (.int (0 : Int32)), (.int (0 : Int32)), (.int (0 : Int32)), (.int (0 : Int32)), (.int (0 : Int32)), (.int (0 : Int32)), (.int (0 : Int32))] (.int 0) := by exact Bd
        clear Bd
        replace Vu := Vu.other Wd3 (Or.inl nud)
        replace Cu := Cu.other Wd3 (Or.inl nud)
        replace Xu := Xu.wr Wd3
        replace T0 := ext_wr T0 Wd3 gd
        clear Wd3
        refine Run.pure hK (seg := [(179, .dup, 1), (180, .iconst 4, 1), (181, .bipush 115, 2)]) (by decide +kernel) (pc' := 183) (L' := #[.val (.int i0), .val (.int i1), .val (.int i2), .val (.int a), .val (.int b), .val (.int x), .val (.int y), .val (.int g1), .val (.int g2), .val (.ref sC), .val (.ref sP), .unset, .unset, .unset]) (S' := [(.int (115 : Int32)), (.int (4 : Int32)), (.ref ad), (.ref ad), (.ref au), (.ref au)]) rfl ?_
        refine Run.cst hK Ad ⟨by decide, by decide⟩ gdz (by decide +kernel) (fun hd4 Wd4 Bd => ?_)
        replace Ad : Arv Z hd4 ad kd .char (44 : Int32) [(.int a), (.int b), (.int (105 : Int32)), (.int (116 : Int32)), (.int (115 : Int32)), (.int (0 : Int32)), (.int (0 : Int32)), (.int (0 : Int32)), (.int (0 : Int32)), (.int (0 : Int32)), (.int (0 : Int32)), (.int (0 : Int32)), (.int (0 : Int32)), (.int (0 : Int32)), (.int (0 : Int32)), (.int (0 : Int32)), (.int (0 : Int32)), (.int (0 : Int32)), (.int (0 : Int32)), (.int (0 : Int32)), (.int (0 : Int32)), (.int (0 : Int32)), (.int (0 : Int32)), (.int (0 : Int32)), (.int (0 : Int32)), (.int (0 : Int32)), (.int (0 : Int32)), (.int (0 : Int32)), (.int (0 : Int32)), (.int (0 : Int32)), (.int (0 : Int32)), (.int (0 : Int32)), (.int (0 : Int32)), (.int (0 : Int32)), (.int (0 : Int32)), (.int (0 : Int32)), (.int (0 : Int32)), (.int (0 : Int32)), (.int (0 : Int32)), (.int (0 : Int32)), (.int (0 : Int32)), (.int (0 : Int32)), (.int (0 : Int32)), (.int (0 : Int32))] (.int 0) := by exact Bd
        clear Bd
        replace Vu := Vu.other Wd4 (Or.inl nud)
        replace Cu := Cu.other Wd4 (Or.inl nud)
        replace Xu := Xu.wr Wd4
        replace T0 := ext_wr T0 Wd4 gd
        clear Wd4
        refine Run.pure hK (seg := [(184, .dup, 1), (185, .iconst 5, 1), (186, .bipush 32, 2)]) (by decide +kernel) (pc' := 188) (L' := #[.val (.int i0), .val (.int i1), .val (.int i2), .val (.int a), .val (.int b), .val (.int x), .val (.int y), .val (.int g1), .val (.int g2), .val (.ref sC), .val (.ref sP), .unset, .unset, .unset]) (S' := [(.int (32 : Int32)), (.int (5 : Int32)), (.ref ad), (.ref ad), (.ref au), (.ref au)]) rfl ?_
        refine Run.cst hK Ad ⟨by decide, by decide⟩ gdz (by decide +kernel) (fun hd5 Wd5 Bd => ?_)
        replace Ad : Arv Z hd5 ad kd .char (44 : Int32) [(.int a), (.int b), (.int (105 : Int32)), (.int (116 : Int32)), (.int (115 : Int32)), (.int (32 : Int32)), (.int (0 : Int32)), (.int (0 : Int32)), (.int (0 : Int32)), (.int (0 : Int32)), (.int (0 : Int32)), (.int (0 : Int32)), (.int (0 : Int32)), (.int (0 : Int32)), (.int (0 : Int32)), (.int (0 : Int32)), (.int (0 : Int32)), (.int (0 : Int32)), (.int (0 : Int32)), (.int (0 : Int32)), (.int (0 : Int32)), (.int (0 : Int32)), (.int (0 : Int32)), (.int (0 : Int32)), (.int (0 : Int32)), (.int (0 : Int32)), (.int (0 : Int32)), (.int (0 : Int32)), (.int (0 : Int32)), (.int (0 : Int32)), (.int (0 : Int32)), (.int (0 : Int32)), (.int (0 : Int32)), (.int (0 : Int32)), (.int (0 : Int32)), (.int (0 : Int32)), (.int (0 : Int32)), (.int (0 : Int32)), (.int (0 : Int32)), (.int (0 : Int32)), (.int (0 : Int32)), (.int (0 : Int32)), (.int (0 : Int32)), (.int (0 : Int32))] (.int 0) := by exact Bd
        clear Bd
        replace Vu := Vu.other Wd5 (Or.inl nud)
        replace Cu := Cu.other Wd5 (Or.inl nud)
        replace Xu := Xu.wr Wd5
        replace T0 := ext_wr T0 Wd5 gd
        clear Wd5
        refine Run.pure hK (seg := [(189, .dup, 1), (190, .bipush 6, 2), (192, .bipush 109, 2)]) (by decide +kernel) (pc' := 194) (L' := #[.val (.int i0), .val (.int i1), .val (.int i2), .val (.int a), .val (.int b), .val (.int x), .val (.int y), .val (.int g1), .val (.int g2), .val (.ref sC), .val (.ref sP), .unset, .unset, .unset]) (S' := [(.int (109 : Int32)), (.int (6 : Int32)), (.ref ad), (.ref ad), (.ref au), (.ref au)]) rfl ?_
        refine Run.cst hK Ad ⟨by decide, by decide⟩ gdz (by decide +kernel) (fun hd6 Wd6 Bd => ?_)
        replace Ad : Arv Z hd6 ad kd .char (44 : Int32) [(.int a), (.int b), (.int (105 : Int32)), (.int (116 : Int32)), (.int (115 : Int32)), (.int (32 : Int32)), (.int (109 : Int32)), (.int (0 : Int32)), (.int (0 : Int32)), (.int (0 : Int32)), (.int (0 : Int32)), (.int (0 : Int32)), (.int (0 : Int32)), (.int (0 : Int32)), (.int (0 : Int32)), (.int (0 : Int32)), (.int (0 : Int32)), (.int (0 : Int32)), (.int (0 : Int32)), (.int (0 : Int32)), (.int (0 : Int32)), (.int (0 : Int32)), (.int (0 : Int32)), (.int (0 : Int32)), (.int (0 : Int32)), (.int (0 : Int32)), (.int (0 : Int32)), (.int (0 : Int32)), (.int (0 : Int32)), (.int (0 : Int32)), (.int (0 : Int32)), (.int (0 : Int32)), (.int (0 : Int32)), (.int (0 : Int32)), (.int (0 : Int32)), (.int (0 : Int32)), (.int (0 : Int32)), (.int (0 : Int32)), (.int (0 : Int32)), (.int (0 : Int32)), (.int (0 : Int32)), (.int (0 : Int32)), (.int (0 : Int32)), (.int (0 : Int32))] (.int 0) := by exact Bd
        clear Bd
        replace Vu := Vu.other Wd6 (Or.inl nud)
        replace Cu := Cu.other Wd6 (Or.inl nud)
        replace Xu := Xu.wr Wd6
        replace T0 := ext_wr T0 Wd6 gd
        clear Wd6
        refine Run.pure hK (seg := [(195, .dup, 1), (196, .bipush 7, 2), (198, .bipush 97, 2)]) (by decide +kernel) (pc' := 200) (L' := #[.val (.int i0), .val (.int i1), .val (.int i2), .val (.int a), .val (.int b), .val (.int x), .val (.int y), .val (.int g1), .val (.int g2), .val (.ref sC), .val (.ref sP), .unset, .unset, .unset]) (S' := [(.int (97 : Int32)), (.int (7 : Int32)), (.ref ad), (.ref ad), (.ref au), (.ref au)]) rfl ?_
        refine Run.cst hK Ad ⟨by decide, by decide⟩ gdz (by decide +kernel) (fun hd7 Wd7 Bd => ?_)
        replace Ad : Arv Z hd7 ad kd .char (44 : Int32) [(.int a), (.int b), (.int (105 : Int32)), (.int (116 : Int32)), (.int (115 : Int32)), (.int (32 : Int32)), (.int (109 : Int32)), (.int (97 : Int32)), (.int (0 : Int32)), (.int (0 : Int32)), (.int (0 : Int32)), (.int (0 : Int32)), (.int (0 : Int32)), (.int (0 : Int32)), (.int (0 : Int32)), (.int (0 : Int32)), (.int (0 : Int32)), (.int (0 : Int32)), (.int (0 : Int32)), (.int (0 : Int32)), (.int (0 : Int32)), (.int (0 : Int32)), (.int (0 : Int32)), (.int (0 : Int32)), (.int (0 : Int32)), (.int (0 : Int32)), (.int (0 : Int32)), (.int (0 : Int32)), (.int (0 : Int32)), (.int (0 : Int32)), (.int (0 : Int32)), (.int (0 : Int32)), (.int (0 : Int32)), (.int (0 : Int32)), (.int (0 : Int32)), (.int (0 : Int32)), (.int (0 : Int32)), (.int (0 : Int32)), (.int (0 : Int32)), (.int (0 : Int32)), (.int (0 : Int32)), (.int (0 : Int32)), (.int (0 : Int32)), (.int (0 : Int32))] (.int 0) := by exact Bd
        clear Bd
        replace Vu := Vu.other Wd7 (Or.inl nud)
        replace Cu := Cu.other Wd7 (Or.inl nud)
        replace Xu := Xu.wr Wd7
        replace T0 := ext_wr T0 Wd7 gd
        clear Wd7
        refine Run.pure hK (seg := [(201, .dup, 1), (202, .bipush 8, 2), (204, .bipush 112, 2)]) (by decide +kernel) (pc' := 206) (L' := #[.val (.int i0), .val (.int i1), .val (.int i2), .val (.int a), .val (.int b), .val (.int x), .val (.int y), .val (.int g1), .val (.int g2), .val (.ref sC), .val (.ref sP), .unset, .unset, .unset]) (S' := [(.int (112 : Int32)), (.int (8 : Int32)), (.ref ad), (.ref ad), (.ref au), (.ref au)]) rfl ?_
        refine Run.cst hK Ad ⟨by decide, by decide⟩ gdz (by decide +kernel) (fun hd8 Wd8 Bd => ?_)
        replace Ad : Arv Z hd8 ad kd .char (44 : Int32) [(.int a), (.int b), (.int (105 : Int32)), (.int (116 : Int32)), (.int (115 : Int32)), (.int (32 : Int32)), (.int (109 : Int32)), (.int (97 : Int32)), (.int (112 : Int32)), (.int (0 : Int32)), (.int (0 : Int32)), (.int (0 : Int32)), (.int (0 : Int32)), (.int (0 : Int32)), (.int (0 : Int32)), (.int (0 : Int32)), (.int (0 : Int32)), (.int (0 : Int32)), (.int (0 : Int32)), (.int (0 : Int32)), (.int (0 : Int32)), (.int (0 : Int32)), (.int (0 : Int32)), (.int (0 : Int32)), (.int (0 : Int32)), (.int (0 : Int32)), (.int (0 : Int32)), (.int (0 : Int32)), (.int (0 : Int32)), (.int (0 : Int32)), (.int (0 : Int32)), (.int (0 : Int32)), (.int (0 : Int32)), (.int (0 : Int32)), (.int (0 : Int32)), (.int (0 : Int32)), (.int (0 : Int32)), (.int (0 : Int32)), (.int (0 : Int32)), (.int (0 : Int32)), (.int (0 : Int32)), (.int (0 : Int32)), (.int (0 : Int32)), (.int (0 : Int32))] (.int 0) := by exact Bd
        clear Bd
        replace Vu := Vu.other Wd8 (Or.inl nud)
        replace Cu := Cu.other Wd8 (Or.inl nud)
        replace Xu := Xu.wr Wd8
        replace T0 := ext_wr T0 Wd8 gd
        clear Wd8
        refine Run.pure hK (seg := [(207, .dup, 1), (208, .bipush 9, 2), (210, .bipush 112, 2)]) (by decide +kernel) (pc' := 212) (L' := #[.val (.int i0), .val (.int i1), .val (.int i2), .val (.int a), .val (.int b), .val (.int x), .val (.int y), .val (.int g1), .val (.int g2), .val (.ref sC), .val (.ref sP), .unset, .unset, .unset]) (S' := [(.int (112 : Int32)), (.int (9 : Int32)), (.ref ad), (.ref ad), (.ref au), (.ref au)]) rfl ?_
        refine Run.cst hK Ad ⟨by decide, by decide⟩ gdz (by decide +kernel) (fun hd9 Wd9 Bd => ?_)
        replace Ad : Arv Z hd9 ad kd .char (44 : Int32) [(.int a), (.int b), (.int (105 : Int32)), (.int (116 : Int32)), (.int (115 : Int32)), (.int (32 : Int32)), (.int (109 : Int32)), (.int (97 : Int32)), (.int (112 : Int32)), (.int (112 : Int32)), (.int (0 : Int32)), (.int (0 : Int32)), (.int (0 : Int32)), (.int (0 : Int32)), (.int (0 : Int32)), (.int (0 : Int32)), (.int (0 : Int32)), (.int (0 : Int32)), (.int (0 : Int32)), (.int (0 : Int32)), (.int (0 : Int32)), (.int (0 : Int32)), (.int (0 : Int32)), (.int (0 : Int32)), (.int (0 : Int32)), (.int (0 : Int32)), (.int (0 : Int32)), (.int (0 : Int32)), (.int (0 : Int32)), (.int (0 : Int32)), (.int (0 : Int32)), (.int (0 : Int32)), (.int (0 : Int32)), (.int (0 : Int32)), (.int (0 : Int32)), (.int (0 : Int32)), (.int (0 : Int32)), (.int (0 : Int32)), (.int (0 : Int32)), (.int (0 : Int32)), (.int (0 : Int32)), (.int (0 : Int32)), (.int (0 : Int32)), (.int (0 : Int32))] (.int 0) := by exact Bd
        clear Bd
        replace Vu := Vu.other Wd9 (Or.inl nud)
        replace Cu := Cu.other Wd9 (Or.inl nud)
        replace Xu := Xu.wr Wd9
        replace T0 := ext_wr T0 Wd9 gd
        clear Wd9
        refine Run.pure hK (seg := [(213, .dup, 1), (214, .bipush 10, 2), (216, .bipush 101, 2)]) (by decide +kernel) (pc' := 218) (L' := #[.val (.int i0), .val (.int i1), .val (.int i2), .val (.int a), .val (.int b), .val (.int x), .val (.int y), .val (.int g1), .val (.int g2), .val (.ref sC), .val (.ref sP), .unset, .unset, .unset]) (S' := [(.int (101 : Int32)), (.int (10 : Int32)), (.ref ad), (.ref ad), (.ref au), (.ref au)]) rfl ?_
        refine Run.cst hK Ad ⟨by decide, by decide⟩ gdz (by decide +kernel) (fun hd10 Wd10 Bd => ?_)
        replace Ad : Arv Z hd10 ad kd .char (44 : Int32) [(.int a), (.int b), (.int (105 : Int32)), (.int (116 : Int32)), (.int (115 : Int32)), (.int (32 : Int32)), (.int (109 : Int32)), (.int (97 : Int32)), (.int (112 : Int32)), (.int (112 : Int32)), (.int (101 : Int32)), (.int (0 : Int32)), (.int (0 : Int32)), (.int (0 : Int32)), (.int (0 : Int32)), (.int (0 : Int32)), (.int (0 : Int32)), (.int (0 : Int32)), (.int (0 : Int32)), (.int (0 : Int32)), (.int (0 : Int32)), (.int (0 : Int32)), (.int (0 : Int32)), (.int (0 : Int32)), (.int (0 : Int32)), (.int (0 : Int32)), (.int (0 : Int32)), (.int (0 : Int32)), (.int (0 : Int32)), (.int (0 : Int32)), (.int (0 : Int32)), (.int (0 : Int32)), (.int (0 : Int32)), (.int (0 : Int32)), (.int (0 : Int32)), (.int (0 : Int32)), (.int (0 : Int32)), (.int (0 : Int32)), (.int (0 : Int32)), (.int (0 : Int32)), (.int (0 : Int32)), (.int (0 : Int32)), (.int (0 : Int32)), (.int (0 : Int32))] (.int 0) := by exact Bd
        clear Bd
        replace Vu := Vu.other Wd10 (Or.inl nud)
        replace Cu := Cu.other Wd10 (Or.inl nud)
        replace Xu := Xu.wr Wd10
        replace T0 := ext_wr T0 Wd10 gd
        clear Wd10
        refine Run.pure hK (seg := [(219, .dup, 1), (220, .bipush 11, 2), (222, .bipush 100, 2)]) (by decide +kernel) (pc' := 224) (L' := #[.val (.int i0), .val (.int i1), .val (.int i2), .val (.int a), .val (.int b), .val (.int x), .val (.int y), .val (.int g1), .val (.int g2), .val (.ref sC), .val (.ref sP), .unset, .unset, .unset]) (S' := [(.int (100 : Int32)), (.int (11 : Int32)), (.ref ad), (.ref ad), (.ref au), (.ref au)]) rfl ?_
        refine Run.cst hK Ad ⟨by decide, by decide⟩ gdz (by decide +kernel) (fun hd11 Wd11 Bd => ?_)
        replace Ad : Arv Z hd11 ad kd .char (44 : Int32) [(.int a), (.int b), (.int (105 : Int32)), (.int (116 : Int32)), (.int (115 : Int32)), (.int (32 : Int32)), (.int (109 : Int32)), (.int (97 : Int32)), (.int (112 : Int32)), (.int (112 : Int32)), (.int (101 : Int32)), (.int (100 : Int32)), (.int (0 : Int32)), (.int (0 : Int32)), (.int (0 : Int32)), (.int (0 : Int32)), (.int (0 : Int32)), (.int (0 : Int32)), (.int (0 : Int32)), (.int (0 : Int32)), (.int (0 : Int32)), (.int (0 : Int32)), (.int (0 : Int32)), (.int (0 : Int32)), (.int (0 : Int32)), (.int (0 : Int32)), (.int (0 : Int32)), (.int (0 : Int32)), (.int (0 : Int32)), (.int (0 : Int32)), (.int (0 : Int32)), (.int (0 : Int32)), (.int (0 : Int32)), (.int (0 : Int32)), (.int (0 : Int32)), (.int (0 : Int32)), (.int (0 : Int32)), (.int (0 : Int32)), (.int (0 : Int32)), (.int (0 : Int32)), (.int (0 : Int32)), (.int (0 : Int32)), (.int (0 : Int32)), (.int (0 : Int32))] (.int 0) := by exact Bd
        clear Bd
        replace Vu := Vu.other Wd11 (Or.inl nud)
        replace Cu := Cu.other Wd11 (Or.inl nud)
        replace Xu := Xu.wr Wd11
        replace T0 := ext_wr T0 Wd11 gd
        clear Wd11
        refine Run.pure hK (seg := [(225, .dup, 1), (226, .bipush 12, 2), (228, .bipush 32, 2)]) (by decide +kernel) (pc' := 230) (L' := #[.val (.int i0), .val (.int i1), .val (.int i2), .val (.int a), .val (.int b), .val (.int x), .val (.int y), .val (.int g1), .val (.int g2), .val (.ref sC), .val (.ref sP), .unset, .unset, .unset]) (S' := [(.int (32 : Int32)), (.int (12 : Int32)), (.ref ad), (.ref ad), (.ref au), (.ref au)]) rfl ?_
        refine Run.cst hK Ad ⟨by decide, by decide⟩ gdz (by decide +kernel) (fun hd12 Wd12 Bd => ?_)
        replace Ad : Arv Z hd12 ad kd .char (44 : Int32) [(.int a), (.int b), (.int (105 : Int32)), (.int (116 : Int32)), (.int (115 : Int32)), (.int (32 : Int32)), (.int (109 : Int32)), (.int (97 : Int32)), (.int (112 : Int32)), (.int (112 : Int32)), (.int (101 : Int32)), (.int (100 : Int32)), (.int (32 : Int32)), (.int (0 : Int32)), (.int (0 : Int32)), (.int (0 : Int32)), (.int (0 : Int32)), (.int (0 : Int32)), (.int (0 : Int32)), (.int (0 : Int32)), (.int (0 : Int32)), (.int (0 : Int32)), (.int (0 : Int32)), (.int (0 : Int32)), (.int (0 : Int32)), (.int (0 : Int32)), (.int (0 : Int32)), (.int (0 : Int32)), (.int (0 : Int32)), (.int (0 : Int32)), (.int (0 : Int32)), (.int (0 : Int32)), (.int (0 : Int32)), (.int (0 : Int32)), (.int (0 : Int32)), (.int (0 : Int32)), (.int (0 : Int32)), (.int (0 : Int32)), (.int (0 : Int32)), (.int (0 : Int32)), (.int (0 : Int32)), (.int (0 : Int32)), (.int (0 : Int32)), (.int (0 : Int32))] (.int 0) := by exact Bd
        clear Bd
        replace Vu := Vu.other Wd12 (Or.inl nud)
        replace Cu := Cu.other Wd12 (Or.inl nud)
        replace Xu := Xu.wr Wd12
        replace T0 := ext_wr T0 Wd12 gd
        clear Wd12
        refine Run.pure hK (seg := [(231, .dup, 1), (232, .bipush 13, 2), (234, .bipush 112, 2)]) (by decide +kernel) (pc' := 236) (L' := #[.val (.int i0), .val (.int i1), .val (.int i2), .val (.int a), .val (.int b), .val (.int x), .val (.int y), .val (.int g1), .val (.int g2), .val (.ref sC), .val (.ref sP), .unset, .unset, .unset]) (S' := [(.int (112 : Int32)), (.int (13 : Int32)), (.ref ad), (.ref ad), (.ref au), (.ref au)]) rfl ?_
        refine Run.cst hK Ad ⟨by decide, by decide⟩ gdz (by decide +kernel) (fun hd13 Wd13 Bd => ?_)
        replace Ad : Arv Z hd13 ad kd .char (44 : Int32) [(.int a), (.int b), (.int (105 : Int32)), (.int (116 : Int32)), (.int (115 : Int32)), (.int (32 : Int32)), (.int (109 : Int32)), (.int (97 : Int32)), (.int (112 : Int32)), (.int (112 : Int32)), (.int (101 : Int32)), (.int (100 : Int32)), (.int (32 : Int32)), (.int (112 : Int32)), (.int (0 : Int32)), (.int (0 : Int32)), (.int (0 : Int32)), (.int (0 : Int32)), (.int (0 : Int32)), (.int (0 : Int32)), (.int (0 : Int32)), (.int (0 : Int32)), (.int (0 : Int32)), (.int (0 : Int32)), (.int (0 : Int32)), (.int (0 : Int32)), (.int (0 : Int32)), (.int (0 : Int32)), (.int (0 : Int32)), (.int (0 : Int32)), (.int (0 : Int32)), (.int (0 : Int32)), (.int (0 : Int32)), (.int (0 : Int32)), (.int (0 : Int32)), (.int (0 : Int32)), (.int (0 : Int32)), (.int (0 : Int32)), (.int (0 : Int32)), (.int (0 : Int32)), (.int (0 : Int32)), (.int (0 : Int32)), (.int (0 : Int32)), (.int (0 : Int32))] (.int 0) := by exact Bd
        clear Bd
        replace Vu := Vu.other Wd13 (Or.inl nud)
        replace Cu := Cu.other Wd13 (Or.inl nud)
        replace Xu := Xu.wr Wd13
        replace T0 := ext_wr T0 Wd13 gd
        clear Wd13
        refine Run.pure hK (seg := [(237, .dup, 1), (238, .bipush 14, 2), (240, .bipush 97, 2)]) (by decide +kernel) (pc' := 242) (L' := #[.val (.int i0), .val (.int i1), .val (.int i2), .val (.int a), .val (.int b), .val (.int x), .val (.int y), .val (.int g1), .val (.int g2), .val (.ref sC), .val (.ref sP), .unset, .unset, .unset]) (S' := [(.int (97 : Int32)), (.int (14 : Int32)), (.ref ad), (.ref ad), (.ref au), (.ref au)]) rfl ?_
        refine Run.cst hK Ad ⟨by decide, by decide⟩ gdz (by decide +kernel) (fun hd14 Wd14 Bd => ?_)
        replace Ad : Arv Z hd14 ad kd .char (44 : Int32) [(.int a), (.int b), (.int (105 : Int32)), (.int (116 : Int32)), (.int (115 : Int32)), (.int (32 : Int32)), (.int (109 : Int32)), (.int (97 : Int32)), (.int (112 : Int32)), (.int (112 : Int32)), (.int (101 : Int32)), (.int (100 : Int32)), (.int (32 : Int32)), (.int (112 : Int32)), (.int (97 : Int32)), (.int (0 : Int32)), (.int (0 : Int32)), (.int (0 : Int32)), (.int (0 : Int32)), (.int (0 : Int32)), (.int (0 : Int32)), (.int (0 : Int32)), (.int (0 : Int32)), (.int (0 : Int32)), (.int (0 : Int32)), (.int (0 : Int32)), (.int (0 : Int32)), (.int (0 : Int32)), (.int (0 : Int32)), (.int (0 : Int32)), (.int (0 : Int32)), (.int (0 : Int32)), (.int (0 : Int32)), (.int (0 : Int32)), (.int (0 : Int32)), (.int (0 : Int32)), (.int (0 : Int32)), (.int (0 : Int32)), (.int (0 : Int32)), (.int (0 : Int32)), (.int (0 : Int32)), (.int (0 : Int32)), (.int (0 : Int32)), (.int (0 : Int32))] (.int 0) := by exact Bd
        clear Bd
        replace Vu := Vu.other Wd14 (Or.inl nud)
        replace Cu := Cu.other Wd14 (Or.inl nud)
        replace Xu := Xu.wr Wd14
        replace T0 := ext_wr T0 Wd14 gd
        clear Wd14
        refine Run.pure hK (seg := [(243, .dup, 1), (244, .bipush 15, 2), (246, .bipush 116, 2)]) (by decide +kernel) (pc' := 248) (L' := #[.val (.int i0), .val (.int i1), .val (.int i2), .val (.int a), .val (.int b), .val (.int x), .val (.int y), .val (.int g1), .val (.int g2), .val (.ref sC), .val (.ref sP), .unset, .unset, .unset]) (S' := [(.int (116 : Int32)), (.int (15 : Int32)), (.ref ad), (.ref ad), (.ref au), (.ref au)]) rfl ?_
        refine Run.cst hK Ad ⟨by decide, by decide⟩ gdz (by decide +kernel) (fun hd15 Wd15 Bd => ?_)
        replace Ad : Arv Z hd15 ad kd .char (44 : Int32) [(.int a), (.int b), (.int (105 : Int32)), (.int (116 : Int32)), (.int (115 : Int32)), (.int (32 : Int32)), (.int (109 : Int32)), (.int (97 : Int32)), (.int (112 : Int32)), (.int (112 : Int32)), (.int (101 : Int32)), (.int (100 : Int32)), (.int (32 : Int32)), (.int (112 : Int32)), (.int (97 : Int32)), (.int (116 : Int32)), (.int (0 : Int32)), (.int (0 : Int32)), (.int (0 : Int32)), (.int (0 : Int32)), (.int (0 : Int32)), (.int (0 : Int32)), (.int (0 : Int32)), (.int (0 : Int32)), (.int (0 : Int32)), (.int (0 : Int32)), (.int (0 : Int32)), (.int (0 : Int32)), (.int (0 : Int32)), (.int (0 : Int32)), (.int (0 : Int32)), (.int (0 : Int32)), (.int (0 : Int32)), (.int (0 : Int32)), (.int (0 : Int32)), (.int (0 : Int32)), (.int (0 : Int32)), (.int (0 : Int32)), (.int (0 : Int32)), (.int (0 : Int32)), (.int (0 : Int32)), (.int (0 : Int32)), (.int (0 : Int32)), (.int (0 : Int32))] (.int 0) := by exact Bd
        clear Bd
        replace Vu := Vu.other Wd15 (Or.inl nud)
        replace Cu := Cu.other Wd15 (Or.inl nud)
        replace Xu := Xu.wr Wd15
        replace T0 := ext_wr T0 Wd15 gd
        clear Wd15
        refine Run.pure hK (seg := [(249, .dup, 1), (250, .bipush 16, 2), (252, .bipush 104, 2)]) (by decide +kernel) (pc' := 254) (L' := #[.val (.int i0), .val (.int i1), .val (.int i2), .val (.int a), .val (.int b), .val (.int x), .val (.int y), .val (.int g1), .val (.int g2), .val (.ref sC), .val (.ref sP), .unset, .unset, .unset]) (S' := [(.int (104 : Int32)), (.int (16 : Int32)), (.ref ad), (.ref ad), (.ref au), (.ref au)]) rfl ?_
        refine Run.cst hK Ad ⟨by decide, by decide⟩ gdz (by decide +kernel) (fun hd16 Wd16 Bd => ?_)
        replace Ad : Arv Z hd16 ad kd .char (44 : Int32) [(.int a), (.int b), (.int (105 : Int32)), (.int (116 : Int32)), (.int (115 : Int32)), (.int (32 : Int32)), (.int (109 : Int32)), (.int (97 : Int32)), (.int (112 : Int32)), (.int (112 : Int32)), (.int (101 : Int32)), (.int (100 : Int32)), (.int (32 : Int32)), (.int (112 : Int32)), (.int (97 : Int32)), (.int (116 : Int32)), (.int (104 : Int32)), (.int (0 : Int32)), (.int (0 : Int32)), (.int (0 : Int32)), (.int (0 : Int32)), (.int (0 : Int32)), (.int (0 : Int32)), (.int (0 : Int32)), (.int (0 : Int32)), (.int (0 : Int32)), (.int (0 : Int32)), (.int (0 : Int32)), (.int (0 : Int32)), (.int (0 : Int32)), (.int (0 : Int32)), (.int (0 : Int32)), (.int (0 : Int32)), (.int (0 : Int32)), (.int (0 : Int32)), (.int (0 : Int32)), (.int (0 : Int32)), (.int (0 : Int32)), (.int (0 : Int32)), (.int (0 : Int32)), (.int (0 : Int32)), (.int (0 : Int32)), (.int (0 : Int32)), (.int (0 : Int32))] (.int 0) := by exact Bd
        clear Bd
        replace Vu := Vu.other Wd16 (Or.inl nud)
        replace Cu := Cu.other Wd16 (Or.inl nud)
        replace Xu := Xu.wr Wd16
        replace T0 := ext_wr T0 Wd16 gd
        clear Wd16
        refine Run.pure hK (seg := [(255, .dup, 1), (256, .bipush 17, 2), (258, .bipush 32, 2)]) (by decide +kernel) (pc' := 260) (L' := #[.val (.int i0), .val (.int i1), .val (.int i2), .val (.int a), .val (.int b), .val (.int x), .val (.int y), .val (.int g1), .val (.int g2), .val (.ref sC), .val (.ref sP), .unset, .unset, .unset]) (S' := [(.int (32 : Int32)), (.int (17 : Int32)), (.ref ad), (.ref ad), (.ref au), (.ref au)]) rfl ?_
        refine Run.cst hK Ad ⟨by decide, by decide⟩ gdz (by decide +kernel) (fun hd17 Wd17 Bd => ?_)
        replace Ad : Arv Z hd17 ad kd .char (44 : Int32) [(.int a), (.int b), (.int (105 : Int32)), (.int (116 : Int32)), (.int (115 : Int32)), (.int (32 : Int32)), (.int (109 : Int32)), (.int (97 : Int32)), (.int (112 : Int32)), (.int (112 : Int32)), (.int (101 : Int32)), (.int (100 : Int32)), (.int (32 : Int32)), (.int (112 : Int32)), (.int (97 : Int32)), (.int (116 : Int32)), (.int (104 : Int32)), (.int (32 : Int32)), (.int (0 : Int32)), (.int (0 : Int32)), (.int (0 : Int32)), (.int (0 : Int32)), (.int (0 : Int32)), (.int (0 : Int32)), (.int (0 : Int32)), (.int (0 : Int32)), (.int (0 : Int32)), (.int (0 : Int32)), (.int (0 : Int32)), (.int (0 : Int32)), (.int (0 : Int32)), (.int (0 : Int32)), (.int (0 : Int32)), (.int (0 : Int32)), (.int (0 : Int32)), (.int (0 : Int32)), (.int (0 : Int32)), (.int (0 : Int32)), (.int (0 : Int32)), (.int (0 : Int32)), (.int (0 : Int32)), (.int (0 : Int32)), (.int (0 : Int32)), (.int (0 : Int32))] (.int 0) := by exact Bd
        clear Bd
        replace Vu := Vu.other Wd17 (Or.inl nud)
        replace Cu := Cu.other Wd17 (Or.inl nud)
        replace Xu := Xu.wr Wd17
        replace T0 := ext_wr T0 Wd17 gd
        clear Wd17
        refine Run.pure hK (seg := [(261, .dup, 1), (262, .bipush 18, 2), (264, .bipush 34, 2)]) (by decide +kernel) (pc' := 266) (L' := #[.val (.int i0), .val (.int i1), .val (.int i2), .val (.int a), .val (.int b), .val (.int x), .val (.int y), .val (.int g1), .val (.int g2), .val (.ref sC), .val (.ref sP), .unset, .unset, .unset]) (S' := [(.int (34 : Int32)), (.int (18 : Int32)), (.ref ad), (.ref ad), (.ref au), (.ref au)]) rfl ?_
        refine Run.cst hK Ad ⟨by decide, by decide⟩ gdz (by decide +kernel) (fun hd18 Wd18 Bd => ?_)
        replace Ad : Arv Z hd18 ad kd .char (44 : Int32) [(.int a), (.int b), (.int (105 : Int32)), (.int (116 : Int32)), (.int (115 : Int32)), (.int (32 : Int32)), (.int (109 : Int32)), (.int (97 : Int32)), (.int (112 : Int32)), (.int (112 : Int32)), (.int (101 : Int32)), (.int (100 : Int32)), (.int (32 : Int32)), (.int (112 : Int32)), (.int (97 : Int32)), (.int (116 : Int32)), (.int (104 : Int32)), (.int (32 : Int32)), (.int (34 : Int32)), (.int (0 : Int32)), (.int (0 : Int32)), (.int (0 : Int32)), (.int (0 : Int32)), (.int (0 : Int32)), (.int (0 : Int32)), (.int (0 : Int32)), (.int (0 : Int32)), (.int (0 : Int32)), (.int (0 : Int32)), (.int (0 : Int32)), (.int (0 : Int32)), (.int (0 : Int32)), (.int (0 : Int32)), (.int (0 : Int32)), (.int (0 : Int32)), (.int (0 : Int32)), (.int (0 : Int32)), (.int (0 : Int32)), (.int (0 : Int32)), (.int (0 : Int32)), (.int (0 : Int32)), (.int (0 : Int32)), (.int (0 : Int32)), (.int (0 : Int32))] (.int 0) := by exact Bd
        clear Bd
        replace Vu := Vu.other Wd18 (Or.inl nud)
        replace Cu := Cu.other Wd18 (Or.inl nud)
        replace Xu := Xu.wr Wd18
        replace T0 := ext_wr T0 Wd18 gd
        clear Wd18
        refine Run.pure hK (seg := [(267, .dup, 1), (268, .bipush 19, 2), (270, .iload 5, 2)]) (by decide +kernel) (pc' := 272) (L' := #[.val (.int i0), .val (.int i1), .val (.int i2), .val (.int a), .val (.int b), .val (.int x), .val (.int y), .val (.int g1), .val (.int g2), .val (.ref sC), .val (.ref sP), .unset, .unset, .unset]) (S' := [(.int x), (.int (19 : Int32)), (.ref ad), (.ref ad), (.ref au), (.ref au)]) rfl ?_
        refine Run.cst hK Ad ⟨by decide, by decide⟩ gdz (by decide +kernel) (fun hd19 Wd19 Bd => ?_)
        replace Ad : Arv Z hd19 ad kd .char (44 : Int32) [(.int a), (.int b), (.int (105 : Int32)), (.int (116 : Int32)), (.int (115 : Int32)), (.int (32 : Int32)), (.int (109 : Int32)), (.int (97 : Int32)), (.int (112 : Int32)), (.int (112 : Int32)), (.int (101 : Int32)), (.int (100 : Int32)), (.int (32 : Int32)), (.int (112 : Int32)), (.int (97 : Int32)), (.int (116 : Int32)), (.int (104 : Int32)), (.int (32 : Int32)), (.int (34 : Int32)), (.int x), (.int (0 : Int32)), (.int (0 : Int32)), (.int (0 : Int32)), (.int (0 : Int32)), (.int (0 : Int32)), (.int (0 : Int32)), (.int (0 : Int32)), (.int (0 : Int32)), (.int (0 : Int32)), (.int (0 : Int32)), (.int (0 : Int32)), (.int (0 : Int32)), (.int (0 : Int32)), (.int (0 : Int32)), (.int (0 : Int32)), (.int (0 : Int32)), (.int (0 : Int32)), (.int (0 : Int32)), (.int (0 : Int32)), (.int (0 : Int32)), (.int (0 : Int32)), (.int (0 : Int32)), (.int (0 : Int32)), (.int (0 : Int32))] (.int 0) := by rw [nc b_x] at Bd; exact Bd
        clear Bd
        replace Vu := Vu.other Wd19 (Or.inl nud)
        replace Cu := Cu.other Wd19 (Or.inl nud)
        replace Xu := Xu.wr Wd19
        replace T0 := ext_wr T0 Wd19 gd
        clear Wd19
        refine Run.pure hK (seg := [(273, .dup, 1), (274, .bipush 20, 2), (276, .iload 6, 2)]) (by decide +kernel) (pc' := 278) (L' := #[.val (.int i0), .val (.int i1), .val (.int i2), .val (.int a), .val (.int b), .val (.int x), .val (.int y), .val (.int g1), .val (.int g2), .val (.ref sC), .val (.ref sP), .unset, .unset, .unset]) (S' := [(.int y), (.int (20 : Int32)), (.ref ad), (.ref ad), (.ref au), (.ref au)]) rfl ?_
        refine Run.cst hK Ad ⟨by decide, by decide⟩ gdz (by decide +kernel) (fun hd20 Wd20 Bd => ?_)
        replace Ad : Arv Z hd20 ad kd .char (44 : Int32) [(.int a), (.int b), (.int (105 : Int32)), (.int (116 : Int32)), (.int (115 : Int32)), (.int (32 : Int32)), (.int (109 : Int32)), (.int (97 : Int32)), (.int (112 : Int32)), (.int (112 : Int32)), (.int (101 : Int32)), (.int (100 : Int32)), (.int (32 : Int32)), (.int (112 : Int32)), (.int (97 : Int32)), (.int (116 : Int32)), (.int (104 : Int32)), (.int (32 : Int32)), (.int (34 : Int32)), (.int x), (.int y), (.int (0 : Int32)), (.int (0 : Int32)), (.int (0 : Int32)), (.int (0 : Int32)), (.int (0 : Int32)), (.int (0 : Int32)), (.int (0 : Int32)), (.int (0 : Int32)), (.int (0 : Int32)), (.int (0 : Int32)), (.int (0 : Int32)), (.int (0 : Int32)), (.int (0 : Int32)), (.int (0 : Int32)), (.int (0 : Int32)), (.int (0 : Int32)), (.int (0 : Int32)), (.int (0 : Int32)), (.int (0 : Int32)), (.int (0 : Int32)), (.int (0 : Int32)), (.int (0 : Int32)), (.int (0 : Int32))] (.int 0) := by rw [nc b_y] at Bd; exact Bd
        clear Bd
        replace Vu := Vu.other Wd20 (Or.inl nud)
        replace Cu := Cu.other Wd20 (Or.inl nud)
        replace Xu := Xu.wr Wd20
        replace T0 := ext_wr T0 Wd20 gd
        clear Wd20
        refine Run.pure hK (seg := [(279, .dup, 1), (280, .bipush 21, 2), (282, .bipush 34, 2)]) (by decide +kernel) (pc' := 284) (L' := #[.val (.int i0), .val (.int i1), .val (.int i2), .val (.int a), .val (.int b), .val (.int x), .val (.int y), .val (.int g1), .val (.int g2), .val (.ref sC), .val (.ref sP), .unset, .unset, .unset]) (S' := [(.int (34 : Int32)), (.int (21 : Int32)), (.ref ad), (.ref ad), (.ref au), (.ref au)]) rfl ?_
        refine Run.cst hK Ad ⟨by decide, by decide⟩ gdz (by decide +kernel) (fun hd21 Wd21 Bd => ?_)
        replace Ad : Arv Z hd21 ad kd .char (44 : Int32) [(.int a), (.int b), (.int (105 : Int32)), (.int (116 : Int32)), (.int (115 : Int32)), (.int (32 : Int32)), (.int (109 : Int32)), (.int (97 : Int32)), (.int (112 : Int32)), (.int (112 : Int32)), (.int (101 : Int32)), (.int (100 : Int32)), (.int (32 : Int32)), (.int (112 : Int32)), (.int (97 : Int32)), (.int (116 : Int32)), (.int (104 : Int32)), (.int (32 : Int32)), (.int (34 : Int32)), (.int x), (.int y), (.int (34 : Int32)), (.int (0 : Int32)), (.int (0 : Int32)), (.int (0 : Int32)), (.int (0 : Int32)), (.int (0 : Int32)), (.int (0 : Int32)), (.int (0 : Int32)), (.int (0 : Int32)), (.int (0 : Int32)), (.int (0 : Int32)), (.int (0 : Int32)), (.int (0 : Int32)), (.int (0 : Int32)), (.int (0 : Int32)), (.int (0 : Int32)), (.int (0 : Int32)), (.int (0 : Int32)), (.int (0 : Int32)), (.int (0 : Int32)), (.int (0 : Int32)), (.int (0 : Int32)), (.int (0 : Int32))] (.int 0) := by exact Bd
        clear Bd
        replace Vu := Vu.other Wd21 (Or.inl nud)
        replace Cu := Cu.other Wd21 (Or.inl nud)
        replace Xu := Xu.wr Wd21
        replace T0 := ext_wr T0 Wd21 gd
        clear Wd21
        refine Run.pure hK (seg := [(285, .dup, 1), (286, .bipush 22, 2), (288, .bipush 32, 2)]) (by decide +kernel) (pc' := 290) (L' := #[.val (.int i0), .val (.int i1), .val (.int i2), .val (.int a), .val (.int b), .val (.int x), .val (.int y), .val (.int g1), .val (.int g2), .val (.ref sC), .val (.ref sP), .unset, .unset, .unset]) (S' := [(.int (32 : Int32)), (.int (22 : Int32)), (.ref ad), (.ref ad), (.ref au), (.ref au)]) rfl ?_
        refine Run.cst hK Ad ⟨by decide, by decide⟩ gdz (by decide +kernel) (fun hd22 Wd22 Bd => ?_)
        replace Ad : Arv Z hd22 ad kd .char (44 : Int32) [(.int a), (.int b), (.int (105 : Int32)), (.int (116 : Int32)), (.int (115 : Int32)), (.int (32 : Int32)), (.int (109 : Int32)), (.int (97 : Int32)), (.int (112 : Int32)), (.int (112 : Int32)), (.int (101 : Int32)), (.int (100 : Int32)), (.int (32 : Int32)), (.int (112 : Int32)), (.int (97 : Int32)), (.int (116 : Int32)), (.int (104 : Int32)), (.int (32 : Int32)), (.int (34 : Int32)), (.int x), (.int y), (.int (34 : Int32)), (.int (32 : Int32)), (.int (0 : Int32)), (.int (0 : Int32)), (.int (0 : Int32)), (.int (0 : Int32)), (.int (0 : Int32)), (.int (0 : Int32)), (.int (0 : Int32)), (.int (0 : Int32)), (.int (0 : Int32)), (.int (0 : Int32)), (.int (0 : Int32)), (.int (0 : Int32)), (.int (0 : Int32)), (.int (0 : Int32)), (.int (0 : Int32)), (.int (0 : Int32)), (.int (0 : Int32)), (.int (0 : Int32)), (.int (0 : Int32)), (.int (0 : Int32)), (.int (0 : Int32))] (.int 0) := by exact Bd
        clear Bd
        replace Vu := Vu.other Wd22 (Or.inl nud)
        replace Cu := Cu.other Wd22 (Or.inl nud)
        replace Xu := Xu.wr Wd22
        replace T0 := ext_wr T0 Wd22 gd
        clear Wd22
        refine Run.pure hK (seg := [(291, .dup, 1), (292, .bipush 23, 2), (294, .bipush 100, 2)]) (by decide +kernel) (pc' := 296) (L' := #[.val (.int i0), .val (.int i1), .val (.int i2), .val (.int a), .val (.int b), .val (.int x), .val (.int y), .val (.int g1), .val (.int g2), .val (.ref sC), .val (.ref sP), .unset, .unset, .unset]) (S' := [(.int (100 : Int32)), (.int (23 : Int32)), (.ref ad), (.ref ad), (.ref au), (.ref au)]) rfl ?_
        refine Run.cst hK Ad ⟨by decide, by decide⟩ gdz (by decide +kernel) (fun hd23 Wd23 Bd => ?_)
        replace Ad : Arv Z hd23 ad kd .char (44 : Int32) [(.int a), (.int b), (.int (105 : Int32)), (.int (116 : Int32)), (.int (115 : Int32)), (.int (32 : Int32)), (.int (109 : Int32)), (.int (97 : Int32)), (.int (112 : Int32)), (.int (112 : Int32)), (.int (101 : Int32)), (.int (100 : Int32)), (.int (32 : Int32)), (.int (112 : Int32)), (.int (97 : Int32)), (.int (116 : Int32)), (.int (104 : Int32)), (.int (32 : Int32)), (.int (34 : Int32)), (.int x), (.int y), (.int (34 : Int32)), (.int (32 : Int32)), (.int (100 : Int32)), (.int (0 : Int32)), (.int (0 : Int32)), (.int (0 : Int32)), (.int (0 : Int32)), (.int (0 : Int32)), (.int (0 : Int32)), (.int (0 : Int32)), (.int (0 : Int32)), (.int (0 : Int32)), (.int (0 : Int32)), (.int (0 : Int32)), (.int (0 : Int32)), (.int (0 : Int32)), (.int (0 : Int32)), (.int (0 : Int32)), (.int (0 : Int32)), (.int (0 : Int32)), (.int (0 : Int32)), (.int (0 : Int32)), (.int (0 : Int32))] (.int 0) := by exact Bd
        clear Bd
        replace Vu := Vu.other Wd23 (Or.inl nud)
        replace Cu := Cu.other Wd23 (Or.inl nud)
        replace Xu := Xu.wr Wd23
        replace T0 := ext_wr T0 Wd23 gd
        clear Wd23
        refine Run.pure hK (seg := [(297, .dup, 1), (298, .bipush 24, 2), (300, .bipush 111, 2)]) (by decide +kernel) (pc' := 302) (L' := #[.val (.int i0), .val (.int i1), .val (.int i2), .val (.int a), .val (.int b), .val (.int x), .val (.int y), .val (.int g1), .val (.int g2), .val (.ref sC), .val (.ref sP), .unset, .unset, .unset]) (S' := [(.int (111 : Int32)), (.int (24 : Int32)), (.ref ad), (.ref ad), (.ref au), (.ref au)]) rfl ?_
        refine Run.cst hK Ad ⟨by decide, by decide⟩ gdz (by decide +kernel) (fun hd24 Wd24 Bd => ?_)
        replace Ad : Arv Z hd24 ad kd .char (44 : Int32) [(.int a), (.int b), (.int (105 : Int32)), (.int (116 : Int32)), (.int (115 : Int32)), (.int (32 : Int32)), (.int (109 : Int32)), (.int (97 : Int32)), (.int (112 : Int32)), (.int (112 : Int32)), (.int (101 : Int32)), (.int (100 : Int32)), (.int (32 : Int32)), (.int (112 : Int32)), (.int (97 : Int32)), (.int (116 : Int32)), (.int (104 : Int32)), (.int (32 : Int32)), (.int (34 : Int32)), (.int x), (.int y), (.int (34 : Int32)), (.int (32 : Int32)), (.int (100 : Int32)), (.int (111 : Int32)), (.int (0 : Int32)), (.int (0 : Int32)), (.int (0 : Int32)), (.int (0 : Int32)), (.int (0 : Int32)), (.int (0 : Int32)), (.int (0 : Int32)), (.int (0 : Int32)), (.int (0 : Int32)), (.int (0 : Int32)), (.int (0 : Int32)), (.int (0 : Int32)), (.int (0 : Int32)), (.int (0 : Int32)), (.int (0 : Int32)), (.int (0 : Int32)), (.int (0 : Int32)), (.int (0 : Int32)), (.int (0 : Int32))] (.int 0) := by exact Bd
        clear Bd
        replace Vu := Vu.other Wd24 (Or.inl nud)
        replace Cu := Cu.other Wd24 (Or.inl nud)
        replace Xu := Xu.wr Wd24
        replace T0 := ext_wr T0 Wd24 gd
        clear Wd24
        refine Run.pure hK (seg := [(303, .dup, 1), (304, .bipush 25, 2), (306, .bipush 101, 2)]) (by decide +kernel) (pc' := 308) (L' := #[.val (.int i0), .val (.int i1), .val (.int i2), .val (.int a), .val (.int b), .val (.int x), .val (.int y), .val (.int g1), .val (.int g2), .val (.ref sC), .val (.ref sP), .unset, .unset, .unset]) (S' := [(.int (101 : Int32)), (.int (25 : Int32)), (.ref ad), (.ref ad), (.ref au), (.ref au)]) rfl ?_
        refine Run.cst hK Ad ⟨by decide, by decide⟩ gdz (by decide +kernel) (fun hd25 Wd25 Bd => ?_)
        replace Ad : Arv Z hd25 ad kd .char (44 : Int32) [(.int a), (.int b), (.int (105 : Int32)), (.int (116 : Int32)), (.int (115 : Int32)), (.int (32 : Int32)), (.int (109 : Int32)), (.int (97 : Int32)), (.int (112 : Int32)), (.int (112 : Int32)), (.int (101 : Int32)), (.int (100 : Int32)), (.int (32 : Int32)), (.int (112 : Int32)), (.int (97 : Int32)), (.int (116 : Int32)), (.int (104 : Int32)), (.int (32 : Int32)), (.int (34 : Int32)), (.int x), (.int y), (.int (34 : Int32)), (.int (32 : Int32)), (.int (100 : Int32)), (.int (111 : Int32)), (.int (101 : Int32)), (.int (0 : Int32)), (.int (0 : Int32)), (.int (0 : Int32)), (.int (0 : Int32)), (.int (0 : Int32)), (.int (0 : Int32)), (.int (0 : Int32)), (.int (0 : Int32)), (.int (0 : Int32)), (.int (0 : Int32)), (.int (0 : Int32)), (.int (0 : Int32)), (.int (0 : Int32)), (.int (0 : Int32)), (.int (0 : Int32)), (.int (0 : Int32)), (.int (0 : Int32)), (.int (0 : Int32))] (.int 0) := by exact Bd
        clear Bd
        replace Vu := Vu.other Wd25 (Or.inl nud)
        replace Cu := Cu.other Wd25 (Or.inl nud)
        replace Xu := Xu.wr Wd25
        replace T0 := ext_wr T0 Wd25 gd
        clear Wd25
        refine Run.pure hK (seg := [(309, .dup, 1), (310, .bipush 26, 2), (312, .bipush 115, 2)]) (by decide +kernel) (pc' := 314) (L' := #[.val (.int i0), .val (.int i1), .val (.int i2), .val (.int a), .val (.int b), .val (.int x), .val (.int y), .val (.int g1), .val (.int g2), .val (.ref sC), .val (.ref sP), .unset, .unset, .unset]) (S' := [(.int (115 : Int32)), (.int (26 : Int32)), (.ref ad), (.ref ad), (.ref au), (.ref au)]) rfl ?_
        refine Run.cst hK Ad ⟨by decide, by decide⟩ gdz (by decide +kernel) (fun hd26 Wd26 Bd => ?_)
        replace Ad : Arv Z hd26 ad kd .char (44 : Int32) [(.int a), (.int b), (.int (105 : Int32)), (.int (116 : Int32)), (.int (115 : Int32)), (.int (32 : Int32)), (.int (109 : Int32)), (.int (97 : Int32)), (.int (112 : Int32)), (.int (112 : Int32)), (.int (101 : Int32)), (.int (100 : Int32)), (.int (32 : Int32)), (.int (112 : Int32)), (.int (97 : Int32)), (.int (116 : Int32)), (.int (104 : Int32)), (.int (32 : Int32)), (.int (34 : Int32)), (.int x), (.int y), (.int (34 : Int32)), (.int (32 : Int32)), (.int (100 : Int32)), (.int (111 : Int32)), (.int (101 : Int32)), (.int (115 : Int32)), (.int (0 : Int32)), (.int (0 : Int32)), (.int (0 : Int32)), (.int (0 : Int32)), (.int (0 : Int32)), (.int (0 : Int32)), (.int (0 : Int32)), (.int (0 : Int32)), (.int (0 : Int32)), (.int (0 : Int32)), (.int (0 : Int32)), (.int (0 : Int32)), (.int (0 : Int32)), (.int (0 : Int32)), (.int (0 : Int32)), (.int (0 : Int32)), (.int (0 : Int32))] (.int 0) := by exact Bd
        clear Bd
        replace Vu := Vu.other Wd26 (Or.inl nud)
        replace Cu := Cu.other Wd26 (Or.inl nud)
        replace Xu := Xu.wr Wd26
        replace T0 := ext_wr T0 Wd26 gd
        clear Wd26
        refine Run.pure hK (seg := [(315, .dup, 1), (316, .bipush 27, 2), (318, .bipush 32, 2)]) (by decide +kernel) (pc' := 320) (L' := #[.val (.int i0), .val (.int i1), .val (.int i2), .val (.int a), .val (.int b), .val (.int x), .val (.int y), .val (.int g1), .val (.int g2), .val (.ref sC), .val (.ref sP), .unset, .unset, .unset]) (S' := [(.int (32 : Int32)), (.int (27 : Int32)), (.ref ad), (.ref ad), (.ref au), (.ref au)]) rfl ?_
        refine Run.cst hK Ad ⟨by decide, by decide⟩ gdz (by decide +kernel) (fun hd27 Wd27 Bd => ?_)
        replace Ad : Arv Z hd27 ad kd .char (44 : Int32) [(.int a), (.int b), (.int (105 : Int32)), (.int (116 : Int32)), (.int (115 : Int32)), (.int (32 : Int32)), (.int (109 : Int32)), (.int (97 : Int32)), (.int (112 : Int32)), (.int (112 : Int32)), (.int (101 : Int32)), (.int (100 : Int32)), (.int (32 : Int32)), (.int (112 : Int32)), (.int (97 : Int32)), (.int (116 : Int32)), (.int (104 : Int32)), (.int (32 : Int32)), (.int (34 : Int32)), (.int x), (.int y), (.int (34 : Int32)), (.int (32 : Int32)), (.int (100 : Int32)), (.int (111 : Int32)), (.int (101 : Int32)), (.int (115 : Int32)), (.int (32 : Int32)), (.int (0 : Int32)), (.int (0 : Int32)), (.int (0 : Int32)), (.int (0 : Int32)), (.int (0 : Int32)), (.int (0 : Int32)), (.int (0 : Int32)), (.int (0 : Int32)), (.int (0 : Int32)), (.int (0 : Int32)), (.int (0 : Int32)), (.int (0 : Int32)), (.int (0 : Int32)), (.int (0 : Int32)), (.int (0 : Int32)), (.int (0 : Int32))] (.int 0) := by exact Bd
        clear Bd
        replace Vu := Vu.other Wd27 (Or.inl nud)
        replace Cu := Cu.other Wd27 (Or.inl nud)
        replace Xu := Xu.wr Wd27
        replace T0 := ext_wr T0 Wd27 gd
        clear Wd27
        refine Run.pure hK (seg := [(321, .dup, 1), (322, .bipush 28, 2), (324, .bipush 110, 2)]) (by decide +kernel) (pc' := 326) (L' := #[.val (.int i0), .val (.int i1), .val (.int i2), .val (.int a), .val (.int b), .val (.int x), .val (.int y), .val (.int g1), .val (.int g2), .val (.ref sC), .val (.ref sP), .unset, .unset, .unset]) (S' := [(.int (110 : Int32)), (.int (28 : Int32)), (.ref ad), (.ref ad), (.ref au), (.ref au)]) rfl ?_
        refine Run.cst hK Ad ⟨by decide, by decide⟩ gdz (by decide +kernel) (fun hd28 Wd28 Bd => ?_)
        replace Ad : Arv Z hd28 ad kd .char (44 : Int32) [(.int a), (.int b), (.int (105 : Int32)), (.int (116 : Int32)), (.int (115 : Int32)), (.int (32 : Int32)), (.int (109 : Int32)), (.int (97 : Int32)), (.int (112 : Int32)), (.int (112 : Int32)), (.int (101 : Int32)), (.int (100 : Int32)), (.int (32 : Int32)), (.int (112 : Int32)), (.int (97 : Int32)), (.int (116 : Int32)), (.int (104 : Int32)), (.int (32 : Int32)), (.int (34 : Int32)), (.int x), (.int y), (.int (34 : Int32)), (.int (32 : Int32)), (.int (100 : Int32)), (.int (111 : Int32)), (.int (101 : Int32)), (.int (115 : Int32)), (.int (32 : Int32)), (.int (110 : Int32)), (.int (0 : Int32)), (.int (0 : Int32)), (.int (0 : Int32)), (.int (0 : Int32)), (.int (0 : Int32)), (.int (0 : Int32)), (.int (0 : Int32)), (.int (0 : Int32)), (.int (0 : Int32)), (.int (0 : Int32)), (.int (0 : Int32)), (.int (0 : Int32)), (.int (0 : Int32)), (.int (0 : Int32)), (.int (0 : Int32))] (.int 0) := by exact Bd
        clear Bd
        replace Vu := Vu.other Wd28 (Or.inl nud)
        replace Cu := Cu.other Wd28 (Or.inl nud)
        replace Xu := Xu.wr Wd28
        replace T0 := ext_wr T0 Wd28 gd
        clear Wd28
        refine Run.pure hK (seg := [(327, .dup, 1), (328, .bipush 29, 2), (330, .bipush 111, 2)]) (by decide +kernel) (pc' := 332) (L' := #[.val (.int i0), .val (.int i1), .val (.int i2), .val (.int a), .val (.int b), .val (.int x), .val (.int y), .val (.int g1), .val (.int g2), .val (.ref sC), .val (.ref sP), .unset, .unset, .unset]) (S' := [(.int (111 : Int32)), (.int (29 : Int32)), (.ref ad), (.ref ad), (.ref au), (.ref au)]) rfl ?_
        refine Run.cst hK Ad ⟨by decide, by decide⟩ gdz (by decide +kernel) (fun hd29 Wd29 Bd => ?_)
        replace Ad : Arv Z hd29 ad kd .char (44 : Int32) [(.int a), (.int b), (.int (105 : Int32)), (.int (116 : Int32)), (.int (115 : Int32)), (.int (32 : Int32)), (.int (109 : Int32)), (.int (97 : Int32)), (.int (112 : Int32)), (.int (112 : Int32)), (.int (101 : Int32)), (.int (100 : Int32)), (.int (32 : Int32)), (.int (112 : Int32)), (.int (97 : Int32)), (.int (116 : Int32)), (.int (104 : Int32)), (.int (32 : Int32)), (.int (34 : Int32)), (.int x), (.int y), (.int (34 : Int32)), (.int (32 : Int32)), (.int (100 : Int32)), (.int (111 : Int32)), (.int (101 : Int32)), (.int (115 : Int32)), (.int (32 : Int32)), (.int (110 : Int32)), (.int (111 : Int32)), (.int (0 : Int32)), (.int (0 : Int32)), (.int (0 : Int32)), (.int (0 : Int32)), (.int (0 : Int32)), (.int (0 : Int32)), (.int (0 : Int32)), (.int (0 : Int32)), (.int (0 : Int32)), (.int (0 : Int32)), (.int (0 : Int32)), (.int (0 : Int32)), (.int (0 : Int32)), (.int (0 : Int32))] (.int 0) := by exact Bd
        clear Bd
        replace Vu := Vu.other Wd29 (Or.inl nud)
        replace Cu := Cu.other Wd29 (Or.inl nud)
        replace Xu := Xu.wr Wd29
        replace T0 := ext_wr T0 Wd29 gd
        clear Wd29
        refine Run.pure hK (seg := [(333, .dup, 1), (334, .bipush 30, 2), (336, .bipush 116, 2)]) (by decide +kernel) (pc' := 338) (L' := #[.val (.int i0), .val (.int i1), .val (.int i2), .val (.int a), .val (.int b), .val (.int x), .val (.int y), .val (.int g1), .val (.int g2), .val (.ref sC), .val (.ref sP), .unset, .unset, .unset]) (S' := [(.int (116 : Int32)), (.int (30 : Int32)), (.ref ad), (.ref ad), (.ref au), (.ref au)]) rfl ?_
        refine Run.cst hK Ad ⟨by decide, by decide⟩ gdz (by decide +kernel) (fun hd30 Wd30 Bd => ?_)
        replace Ad : Arv Z hd30 ad kd .char (44 : Int32) [(.int a), (.int b), (.int (105 : Int32)), (.int (116 : Int32)), (.int (115 : Int32)), (.int (32 : Int32)), (.int (109 : Int32)), (.int (97 : Int32)), (.int (112 : Int32)), (.int (112 : Int32)), (.int (101 : Int32)), (.int (100 : Int32)), (.int (32 : Int32)), (.int (112 : Int32)), (.int (97 : Int32)), (.int (116 : Int32)), (.int (104 : Int32)), (.int (32 : Int32)), (.int (34 : Int32)), (.int x), (.int y), (.int (34 : Int32)), (.int (32 : Int32)), (.int (100 : Int32)), (.int (111 : Int32)), (.int (101 : Int32)), (.int (115 : Int32)), (.int (32 : Int32)), (.int (110 : Int32)), (.int (111 : Int32)), (.int (116 : Int32)), (.int (0 : Int32)), (.int (0 : Int32)), (.int (0 : Int32)), (.int (0 : Int32)), (.int (0 : Int32)), (.int (0 : Int32)), (.int (0 : Int32)), (.int (0 : Int32)), (.int (0 : Int32)), (.int (0 : Int32)), (.int (0 : Int32)), (.int (0 : Int32)), (.int (0 : Int32))] (.int 0) := by exact Bd
        clear Bd
        replace Vu := Vu.other Wd30 (Or.inl nud)
        replace Cu := Cu.other Wd30 (Or.inl nud)
        replace Xu := Xu.wr Wd30
        replace T0 := ext_wr T0 Wd30 gd
        clear Wd30
        refine Run.pure hK (seg := [(339, .dup, 1), (340, .bipush 31, 2), (342, .bipush 32, 2)]) (by decide +kernel) (pc' := 344) (L' := #[.val (.int i0), .val (.int i1), .val (.int i2), .val (.int a), .val (.int b), .val (.int x), .val (.int y), .val (.int g1), .val (.int g2), .val (.ref sC), .val (.ref sP), .unset, .unset, .unset]) (S' := [(.int (32 : Int32)), (.int (31 : Int32)), (.ref ad), (.ref ad), (.ref au), (.ref au)]) rfl ?_
        refine Run.cst hK Ad ⟨by decide, by decide⟩ gdz (by decide +kernel) (fun hd31 Wd31 Bd => ?_)
        replace Ad : Arv Z hd31 ad kd .char (44 : Int32) [(.int a), (.int b), (.int (105 : Int32)), (.int (116 : Int32)), (.int (115 : Int32)), (.int (32 : Int32)), (.int (109 : Int32)), (.int (97 : Int32)), (.int (112 : Int32)), (.int (112 : Int32)), (.int (101 : Int32)), (.int (100 : Int32)), (.int (32 : Int32)), (.int (112 : Int32)), (.int (97 : Int32)), (.int (116 : Int32)), (.int (104 : Int32)), (.int (32 : Int32)), (.int (34 : Int32)), (.int x), (.int y), (.int (34 : Int32)), (.int (32 : Int32)), (.int (100 : Int32)), (.int (111 : Int32)), (.int (101 : Int32)), (.int (115 : Int32)), (.int (32 : Int32)), (.int (110 : Int32)), (.int (111 : Int32)), (.int (116 : Int32)), (.int (32 : Int32)), (.int (0 : Int32)), (.int (0 : Int32)), (.int (0 : Int32)), (.int (0 : Int32)), (.int (0 : Int32)), (.int (0 : Int32)), (.int (0 : Int32)), (.int (0 : Int32)), (.int (0 : Int32)), (.int (0 : Int32)), (.int (0 : Int32)), (.int (0 : Int32))] (.int 0) := by exact Bd
        clear Bd
        replace Vu := Vu.other Wd31 (Or.inl nud)
        replace Cu := Cu.other Wd31 (Or.inl nud)
        replace Xu := Xu.wr Wd31
        replace T0 := ext_wr T0 Wd31 gd
        clear Wd31
        refine Run.pure hK (seg := [(345, .dup, 1), (346, .bipush 32, 2), (348, .bipush 115, 2)]) (by decide +kernel) (pc' := 350) (L' := #[.val (.int i0), .val (.int i1), .val (.int i2), .val (.int a), .val (.int b), .val (.int x), .val (.int y), .val (.int g1), .val (.int g2), .val (.ref sC), .val (.ref sP), .unset, .unset, .unset]) (S' := [(.int (115 : Int32)), (.int (32 : Int32)), (.ref ad), (.ref ad), (.ref au), (.ref au)]) rfl ?_
        refine Run.cst hK Ad ⟨by decide, by decide⟩ gdz (by decide +kernel) (fun hd32 Wd32 Bd => ?_)
        replace Ad : Arv Z hd32 ad kd .char (44 : Int32) [(.int a), (.int b), (.int (105 : Int32)), (.int (116 : Int32)), (.int (115 : Int32)), (.int (32 : Int32)), (.int (109 : Int32)), (.int (97 : Int32)), (.int (112 : Int32)), (.int (112 : Int32)), (.int (101 : Int32)), (.int (100 : Int32)), (.int (32 : Int32)), (.int (112 : Int32)), (.int (97 : Int32)), (.int (116 : Int32)), (.int (104 : Int32)), (.int (32 : Int32)), (.int (34 : Int32)), (.int x), (.int y), (.int (34 : Int32)), (.int (32 : Int32)), (.int (100 : Int32)), (.int (111 : Int32)), (.int (101 : Int32)), (.int (115 : Int32)), (.int (32 : Int32)), (.int (110 : Int32)), (.int (111 : Int32)), (.int (116 : Int32)), (.int (32 : Int32)), (.int (115 : Int32)), (.int (0 : Int32)), (.int (0 : Int32)), (.int (0 : Int32)), (.int (0 : Int32)), (.int (0 : Int32)), (.int (0 : Int32)), (.int (0 : Int32)), (.int (0 : Int32)), (.int (0 : Int32)), (.int (0 : Int32)), (.int (0 : Int32))] (.int 0) := by exact Bd
        clear Bd
        replace Vu := Vu.other Wd32 (Or.inl nud)
        replace Cu := Cu.other Wd32 (Or.inl nud)
        replace Xu := Xu.wr Wd32
        replace T0 := ext_wr T0 Wd32 gd
        clear Wd32
        refine Run.pure hK (seg := [(351, .dup, 1), (352, .bipush 33, 2), (354, .bipush 116, 2)]) (by decide +kernel) (pc' := 356) (L' := #[.val (.int i0), .val (.int i1), .val (.int i2), .val (.int a), .val (.int b), .val (.int x), .val (.int y), .val (.int g1), .val (.int g2), .val (.ref sC), .val (.ref sP), .unset, .unset, .unset]) (S' := [(.int (116 : Int32)), (.int (33 : Int32)), (.ref ad), (.ref ad), (.ref au), (.ref au)]) rfl ?_
        refine Run.cst hK Ad ⟨by decide, by decide⟩ gdz (by decide +kernel) (fun hd33 Wd33 Bd => ?_)
        replace Ad : Arv Z hd33 ad kd .char (44 : Int32) [(.int a), (.int b), (.int (105 : Int32)), (.int (116 : Int32)), (.int (115 : Int32)), (.int (32 : Int32)), (.int (109 : Int32)), (.int (97 : Int32)), (.int (112 : Int32)), (.int (112 : Int32)), (.int (101 : Int32)), (.int (100 : Int32)), (.int (32 : Int32)), (.int (112 : Int32)), (.int (97 : Int32)), (.int (116 : Int32)), (.int (104 : Int32)), (.int (32 : Int32)), (.int (34 : Int32)), (.int x), (.int y), (.int (34 : Int32)), (.int (32 : Int32)), (.int (100 : Int32)), (.int (111 : Int32)), (.int (101 : Int32)), (.int (115 : Int32)), (.int (32 : Int32)), (.int (110 : Int32)), (.int (111 : Int32)), (.int (116 : Int32)), (.int (32 : Int32)), (.int (115 : Int32)), (.int (116 : Int32)), (.int (0 : Int32)), (.int (0 : Int32)), (.int (0 : Int32)), (.int (0 : Int32)), (.int (0 : Int32)), (.int (0 : Int32)), (.int (0 : Int32)), (.int (0 : Int32)), (.int (0 : Int32)), (.int (0 : Int32))] (.int 0) := by exact Bd
        clear Bd
        replace Vu := Vu.other Wd33 (Or.inl nud)
        replace Cu := Cu.other Wd33 (Or.inl nud)
        replace Xu := Xu.wr Wd33
        replace T0 := ext_wr T0 Wd33 gd
        clear Wd33
        refine Run.pure hK (seg := [(357, .dup, 1), (358, .bipush 34, 2), (360, .bipush 97, 2)]) (by decide +kernel) (pc' := 362) (L' := #[.val (.int i0), .val (.int i1), .val (.int i2), .val (.int a), .val (.int b), .val (.int x), .val (.int y), .val (.int g1), .val (.int g2), .val (.ref sC), .val (.ref sP), .unset, .unset, .unset]) (S' := [(.int (97 : Int32)), (.int (34 : Int32)), (.ref ad), (.ref ad), (.ref au), (.ref au)]) rfl ?_
        refine Run.cst hK Ad ⟨by decide, by decide⟩ gdz (by decide +kernel) (fun hd34 Wd34 Bd => ?_)
        replace Ad : Arv Z hd34 ad kd .char (44 : Int32) [(.int a), (.int b), (.int (105 : Int32)), (.int (116 : Int32)), (.int (115 : Int32)), (.int (32 : Int32)), (.int (109 : Int32)), (.int (97 : Int32)), (.int (112 : Int32)), (.int (112 : Int32)), (.int (101 : Int32)), (.int (100 : Int32)), (.int (32 : Int32)), (.int (112 : Int32)), (.int (97 : Int32)), (.int (116 : Int32)), (.int (104 : Int32)), (.int (32 : Int32)), (.int (34 : Int32)), (.int x), (.int y), (.int (34 : Int32)), (.int (32 : Int32)), (.int (100 : Int32)), (.int (111 : Int32)), (.int (101 : Int32)), (.int (115 : Int32)), (.int (32 : Int32)), (.int (110 : Int32)), (.int (111 : Int32)), (.int (116 : Int32)), (.int (32 : Int32)), (.int (115 : Int32)), (.int (116 : Int32)), (.int (97 : Int32)), (.int (0 : Int32)), (.int (0 : Int32)), (.int (0 : Int32)), (.int (0 : Int32)), (.int (0 : Int32)), (.int (0 : Int32)), (.int (0 : Int32)), (.int (0 : Int32)), (.int (0 : Int32))] (.int 0) := by exact Bd
        clear Bd
        replace Vu := Vu.other Wd34 (Or.inl nud)
        replace Cu := Cu.other Wd34 (Or.inl nud)
        replace Xu := Xu.wr Wd34
        replace T0 := ext_wr T0 Wd34 gd
        clear Wd34
        refine Run.pure hK (seg := [(363, .dup, 1), (364, .bipush 35, 2), (366, .bipush 114, 2)]) (by decide +kernel) (pc' := 368) (L' := #[.val (.int i0), .val (.int i1), .val (.int i2), .val (.int a), .val (.int b), .val (.int x), .val (.int y), .val (.int g1), .val (.int g2), .val (.ref sC), .val (.ref sP), .unset, .unset, .unset]) (S' := [(.int (114 : Int32)), (.int (35 : Int32)), (.ref ad), (.ref ad), (.ref au), (.ref au)]) rfl ?_
        refine Run.cst hK Ad ⟨by decide, by decide⟩ gdz (by decide +kernel) (fun hd35 Wd35 Bd => ?_)
        replace Ad : Arv Z hd35 ad kd .char (44 : Int32) [(.int a), (.int b), (.int (105 : Int32)), (.int (116 : Int32)), (.int (115 : Int32)), (.int (32 : Int32)), (.int (109 : Int32)), (.int (97 : Int32)), (.int (112 : Int32)), (.int (112 : Int32)), (.int (101 : Int32)), (.int (100 : Int32)), (.int (32 : Int32)), (.int (112 : Int32)), (.int (97 : Int32)), (.int (116 : Int32)), (.int (104 : Int32)), (.int (32 : Int32)), (.int (34 : Int32)), (.int x), (.int y), (.int (34 : Int32)), (.int (32 : Int32)), (.int (100 : Int32)), (.int (111 : Int32)), (.int (101 : Int32)), (.int (115 : Int32)), (.int (32 : Int32)), (.int (110 : Int32)), (.int (111 : Int32)), (.int (116 : Int32)), (.int (32 : Int32)), (.int (115 : Int32)), (.int (116 : Int32)), (.int (97 : Int32)), (.int (114 : Int32)), (.int (0 : Int32)), (.int (0 : Int32)), (.int (0 : Int32)), (.int (0 : Int32)), (.int (0 : Int32)), (.int (0 : Int32)), (.int (0 : Int32)), (.int (0 : Int32))] (.int 0) := by exact Bd
        clear Bd
        replace Vu := Vu.other Wd35 (Or.inl nud)
        replace Cu := Cu.other Wd35 (Or.inl nud)
        replace Xu := Xu.wr Wd35
        replace T0 := ext_wr T0 Wd35 gd
        clear Wd35
        refine Run.pure hK (seg := [(369, .dup, 1), (370, .bipush 36, 2), (372, .bipush 116, 2)]) (by decide +kernel) (pc' := 374) (L' := #[.val (.int i0), .val (.int i1), .val (.int i2), .val (.int a), .val (.int b), .val (.int x), .val (.int y), .val (.int g1), .val (.int g2), .val (.ref sC), .val (.ref sP), .unset, .unset, .unset]) (S' := [(.int (116 : Int32)), (.int (36 : Int32)), (.ref ad), (.ref ad), (.ref au), (.ref au)]) rfl ?_
        refine Run.cst hK Ad ⟨by decide, by decide⟩ gdz (by decide +kernel) (fun hd36 Wd36 Bd => ?_)
        replace Ad : Arv Z hd36 ad kd .char (44 : Int32) [(.int a), (.int b), (.int (105 : Int32)), (.int (116 : Int32)), (.int (115 : Int32)), (.int (32 : Int32)), (.int (109 : Int32)), (.int (97 : Int32)), (.int (112 : Int32)), (.int (112 : Int32)), (.int (101 : Int32)), (.int (100 : Int32)), (.int (32 : Int32)), (.int (112 : Int32)), (.int (97 : Int32)), (.int (116 : Int32)), (.int (104 : Int32)), (.int (32 : Int32)), (.int (34 : Int32)), (.int x), (.int y), (.int (34 : Int32)), (.int (32 : Int32)), (.int (100 : Int32)), (.int (111 : Int32)), (.int (101 : Int32)), (.int (115 : Int32)), (.int (32 : Int32)), (.int (110 : Int32)), (.int (111 : Int32)), (.int (116 : Int32)), (.int (32 : Int32)), (.int (115 : Int32)), (.int (116 : Int32)), (.int (97 : Int32)), (.int (114 : Int32)), (.int (116 : Int32)), (.int (0 : Int32)), (.int (0 : Int32)), (.int (0 : Int32)), (.int (0 : Int32)), (.int (0 : Int32)), (.int (0 : Int32)), (.int (0 : Int32))] (.int 0) := by exact Bd
        clear Bd
        replace Vu := Vu.other Wd36 (Or.inl nud)
        replace Cu := Cu.other Wd36 (Or.inl nud)
        replace Xu := Xu.wr Wd36
        replace T0 := ext_wr T0 Wd36 gd
        clear Wd36
        refine Run.pure hK (seg := [(375, .dup, 1), (376, .bipush 37, 2), (378, .bipush 32, 2)]) (by decide +kernel) (pc' := 380) (L' := #[.val (.int i0), .val (.int i1), .val (.int i2), .val (.int a), .val (.int b), .val (.int x), .val (.int y), .val (.int g1), .val (.int g2), .val (.ref sC), .val (.ref sP), .unset, .unset, .unset]) (S' := [(.int (32 : Int32)), (.int (37 : Int32)), (.ref ad), (.ref ad), (.ref au), (.ref au)]) rfl ?_
        refine Run.cst hK Ad ⟨by decide, by decide⟩ gdz (by decide +kernel) (fun hd37 Wd37 Bd => ?_)
        replace Ad : Arv Z hd37 ad kd .char (44 : Int32) [(.int a), (.int b), (.int (105 : Int32)), (.int (116 : Int32)), (.int (115 : Int32)), (.int (32 : Int32)), (.int (109 : Int32)), (.int (97 : Int32)), (.int (112 : Int32)), (.int (112 : Int32)), (.int (101 : Int32)), (.int (100 : Int32)), (.int (32 : Int32)), (.int (112 : Int32)), (.int (97 : Int32)), (.int (116 : Int32)), (.int (104 : Int32)), (.int (32 : Int32)), (.int (34 : Int32)), (.int x), (.int y), (.int (34 : Int32)), (.int (32 : Int32)), (.int (100 : Int32)), (.int (111 : Int32)), (.int (101 : Int32)), (.int (115 : Int32)), (.int (32 : Int32)), (.int (110 : Int32)), (.int (111 : Int32)), (.int (116 : Int32)), (.int (32 : Int32)), (.int (115 : Int32)), (.int (116 : Int32)), (.int (97 : Int32)), (.int (114 : Int32)), (.int (116 : Int32)), (.int (32 : Int32)), (.int (0 : Int32)), (.int (0 : Int32)), (.int (0 : Int32)), (.int (0 : Int32)), (.int (0 : Int32)), (.int (0 : Int32))] (.int 0) := by exact Bd
        clear Bd
        replace Vu := Vu.other Wd37 (Or.inl nud)
        replace Cu := Cu.other Wd37 (Or.inl nud)
        replace Xu := Xu.wr Wd37
        replace T0 := ext_wr T0 Wd37 gd
        clear Wd37
        refine Run.pure hK (seg := [(381, .dup, 1), (382, .bipush 38, 2), (384, .bipush 119, 2)]) (by decide +kernel) (pc' := 386) (L' := #[.val (.int i0), .val (.int i1), .val (.int i2), .val (.int a), .val (.int b), .val (.int x), .val (.int y), .val (.int g1), .val (.int g2), .val (.ref sC), .val (.ref sP), .unset, .unset, .unset]) (S' := [(.int (119 : Int32)), (.int (38 : Int32)), (.ref ad), (.ref ad), (.ref au), (.ref au)]) rfl ?_
        refine Run.cst hK Ad ⟨by decide, by decide⟩ gdz (by decide +kernel) (fun hd38 Wd38 Bd => ?_)
        replace Ad : Arv Z hd38 ad kd .char (44 : Int32) [(.int a), (.int b), (.int (105 : Int32)), (.int (116 : Int32)), (.int (115 : Int32)), (.int (32 : Int32)), (.int (109 : Int32)), (.int (97 : Int32)), (.int (112 : Int32)), (.int (112 : Int32)), (.int (101 : Int32)), (.int (100 : Int32)), (.int (32 : Int32)), (.int (112 : Int32)), (.int (97 : Int32)), (.int (116 : Int32)), (.int (104 : Int32)), (.int (32 : Int32)), (.int (34 : Int32)), (.int x), (.int y), (.int (34 : Int32)), (.int (32 : Int32)), (.int (100 : Int32)), (.int (111 : Int32)), (.int (101 : Int32)), (.int (115 : Int32)), (.int (32 : Int32)), (.int (110 : Int32)), (.int (111 : Int32)), (.int (116 : Int32)), (.int (32 : Int32)), (.int (115 : Int32)), (.int (116 : Int32)), (.int (97 : Int32)), (.int (114 : Int32)), (.int (116 : Int32)), (.int (32 : Int32)), (.int (119 : Int32)), (.int (0 : Int32)), (.int (0 : Int32)), (.int (0 : Int32)), (.int (0 : Int32)), (.int (0 : Int32))] (.int 0) := by exact Bd
        clear Bd
        replace Vu := Vu.other Wd38 (Or.inl nud)
        replace Cu := Cu.other Wd38 (Or.inl nud)
        replace Xu := Xu.wr Wd38
        replace T0 := ext_wr T0 Wd38 gd
        clear Wd38
        refine Run.pure hK (seg := [(387, .dup, 1), (388, .bipush 39, 2), (390, .bipush 105, 2)]) (by decide +kernel) (pc' := 392) (L' := #[.val (.int i0), .val (.int i1), .val (.int i2), .val (.int a), .val (.int b), .val (.int x), .val (.int y), .val (.int g1), .val (.int g2), .val (.ref sC), .val (.ref sP), .unset, .unset, .unset]) (S' := [(.int (105 : Int32)), (.int (39 : Int32)), (.ref ad), (.ref ad), (.ref au), (.ref au)]) rfl ?_
        refine Run.cst hK Ad ⟨by decide, by decide⟩ gdz (by decide +kernel) (fun hd39 Wd39 Bd => ?_)
        replace Ad : Arv Z hd39 ad kd .char (44 : Int32) [(.int a), (.int b), (.int (105 : Int32)), (.int (116 : Int32)), (.int (115 : Int32)), (.int (32 : Int32)), (.int (109 : Int32)), (.int (97 : Int32)), (.int (112 : Int32)), (.int (112 : Int32)), (.int (101 : Int32)), (.int (100 : Int32)), (.int (32 : Int32)), (.int (112 : Int32)), (.int (97 : Int32)), (.int (116 : Int32)), (.int (104 : Int32)), (.int (32 : Int32)), (.int (34 : Int32)), (.int x), (.int y), (.int (34 : Int32)), (.int (32 : Int32)), (.int (100 : Int32)), (.int (111 : Int32)), (.int (101 : Int32)), (.int (115 : Int32)), (.int (32 : Int32)), (.int (110 : Int32)), (.int (111 : Int32)), (.int (116 : Int32)), (.int (32 : Int32)), (.int (115 : Int32)), (.int (116 : Int32)), (.int (97 : Int32)), (.int (114 : Int32)), (.int (116 : Int32)), (.int (32 : Int32)), (.int (119 : Int32)), (.int (105 : Int32)), (.int (0 : Int32)), (.int (0 : Int32)), (.int (0 : Int32)), (.int (0 : Int32))] (.int 0) := by exact Bd
        clear Bd
        replace Vu := Vu.other Wd39 (Or.inl nud)
        replace Cu := Cu.other Wd39 (Or.inl nud)
        replace Xu := Xu.wr Wd39
        replace T0 := ext_wr T0 Wd39 gd
        clear Wd39
        refine Run.pure hK (seg := [(393, .dup, 1), (394, .bipush 40, 2), (396, .bipush 116, 2)]) (by decide +kernel) (pc' := 398) (L' := #[.val (.int i0), .val (.int i1), .val (.int i2), .val (.int a), .val (.int b), .val (.int x), .val (.int y), .val (.int g1), .val (.int g2), .val (.ref sC), .val (.ref sP), .unset, .unset, .unset]) (S' := [(.int (116 : Int32)), (.int (40 : Int32)), (.ref ad), (.ref ad), (.ref au), (.ref au)]) rfl ?_
        refine Run.cst hK Ad ⟨by decide, by decide⟩ gdz (by decide +kernel) (fun hd40 Wd40 Bd => ?_)
        replace Ad : Arv Z hd40 ad kd .char (44 : Int32) [(.int a), (.int b), (.int (105 : Int32)), (.int (116 : Int32)), (.int (115 : Int32)), (.int (32 : Int32)), (.int (109 : Int32)), (.int (97 : Int32)), (.int (112 : Int32)), (.int (112 : Int32)), (.int (101 : Int32)), (.int (100 : Int32)), (.int (32 : Int32)), (.int (112 : Int32)), (.int (97 : Int32)), (.int (116 : Int32)), (.int (104 : Int32)), (.int (32 : Int32)), (.int (34 : Int32)), (.int x), (.int y), (.int (34 : Int32)), (.int (32 : Int32)), (.int (100 : Int32)), (.int (111 : Int32)), (.int (101 : Int32)), (.int (115 : Int32)), (.int (32 : Int32)), (.int (110 : Int32)), (.int (111 : Int32)), (.int (116 : Int32)), (.int (32 : Int32)), (.int (115 : Int32)), (.int (116 : Int32)), (.int (97 : Int32)), (.int (114 : Int32)), (.int (116 : Int32)), (.int (32 : Int32)), (.int (119 : Int32)), (.int (105 : Int32)), (.int (116 : Int32)), (.int (0 : Int32)), (.int (0 : Int32)), (.int (0 : Int32))] (.int 0) := by exact Bd
        clear Bd
        replace Vu := Vu.other Wd40 (Or.inl nud)
        replace Cu := Cu.other Wd40 (Or.inl nud)
        replace Xu := Xu.wr Wd40
        replace T0 := ext_wr T0 Wd40 gd
        clear Wd40
        refine Run.pure hK (seg := [(399, .dup, 1), (400, .bipush 41, 2), (402, .bipush 104, 2)]) (by decide +kernel) (pc' := 404) (L' := #[.val (.int i0), .val (.int i1), .val (.int i2), .val (.int a), .val (.int b), .val (.int x), .val (.int y), .val (.int g1), .val (.int g2), .val (.ref sC), .val (.ref sP), .unset, .unset, .unset]) (S' := [(.int (104 : Int32)), (.int (41 : Int32)), (.ref ad), (.ref ad), (.ref au), (.ref au)]) rfl ?_
        refine Run.cst hK Ad ⟨by decide, by decide⟩ gdz (by decide +kernel) (fun hd41 Wd41 Bd => ?_)
        replace Ad : Arv Z hd41 ad kd .char (44 : Int32) [(.int a), (.int b), (.int (105 : Int32)), (.int (116 : Int32)), (.int (115 : Int32)), (.int (32 : Int32)), (.int (109 : Int32)), (.int (97 : Int32)), (.int (112 : Int32)), (.int (112 : Int32)), (.int (101 : Int32)), (.int (100 : Int32)), (.int (32 : Int32)), (.int (112 : Int32)), (.int (97 : Int32)), (.int (116 : Int32)), (.int (104 : Int32)), (.int (32 : Int32)), (.int (34 : Int32)), (.int x), (.int y), (.int (34 : Int32)), (.int (32 : Int32)), (.int (100 : Int32)), (.int (111 : Int32)), (.int (101 : Int32)), (.int (115 : Int32)), (.int (32 : Int32)), (.int (110 : Int32)), (.int (111 : Int32)), (.int (116 : Int32)), (.int (32 : Int32)), (.int (115 : Int32)), (.int (116 : Int32)), (.int (97 : Int32)), (.int (114 : Int32)), (.int (116 : Int32)), (.int (32 : Int32)), (.int (119 : Int32)), (.int (105 : Int32)), (.int (116 : Int32)), (.int (104 : Int32)), (.int (0 : Int32)), (.int (0 : Int32))] (.int 0) := by exact Bd
        clear Bd
        replace Vu := Vu.other Wd41 (Or.inl nud)
        replace Cu := Cu.other Wd41 (Or.inl nud)
        replace Xu := Xu.wr Wd41
        replace T0 := ext_wr T0 Wd41 gd
        clear Wd41
        refine Run.pure hK (seg := [(405, .dup, 1), (406, .bipush 42, 2), (408, .bipush 32, 2)]) (by decide +kernel) (pc' := 410) (L' := #[.val (.int i0), .val (.int i1), .val (.int i2), .val (.int a), .val (.int b), .val (.int x), .val (.int y), .val (.int g1), .val (.int g2), .val (.ref sC), .val (.ref sP), .unset, .unset, .unset]) (S' := [(.int (32 : Int32)), (.int (42 : Int32)), (.ref ad), (.ref ad), (.ref au), (.ref au)]) rfl ?_
        refine Run.cst hK Ad ⟨by decide, by decide⟩ gdz (by decide +kernel) (fun hd42 Wd42 Bd => ?_)
        replace Ad : Arv Z hd42 ad kd .char (44 : Int32) [(.int a), (.int b), (.int (105 : Int32)), (.int (116 : Int32)), (.int (115 : Int32)), (.int (32 : Int32)), (.int (109 : Int32)), (.int (97 : Int32)), (.int (112 : Int32)), (.int (112 : Int32)), (.int (101 : Int32)), (.int (100 : Int32)), (.int (32 : Int32)), (.int (112 : Int32)), (.int (97 : Int32)), (.int (116 : Int32)), (.int (104 : Int32)), (.int (32 : Int32)), (.int (34 : Int32)), (.int x), (.int y), (.int (34 : Int32)), (.int (32 : Int32)), (.int (100 : Int32)), (.int (111 : Int32)), (.int (101 : Int32)), (.int (115 : Int32)), (.int (32 : Int32)), (.int (110 : Int32)), (.int (111 : Int32)), (.int (116 : Int32)), (.int (32 : Int32)), (.int (115 : Int32)), (.int (116 : Int32)), (.int (97 : Int32)), (.int (114 : Int32)), (.int (116 : Int32)), (.int (32 : Int32)), (.int (119 : Int32)), (.int (105 : Int32)), (.int (116 : Int32)), (.int (104 : Int32)), (.int (32 : Int32)), (.int (0 : Int32))] (.int 0) := by exact Bd
        clear Bd
        replace Vu := Vu.other Wd42 (Or.inl nud)
        replace Cu := Cu.other Wd42 (Or.inl nud)
        replace Xu := Xu.wr Wd42
        replace T0 := ext_wr T0 Wd42 gd
        clear Wd42
        refine Run.pure hK (seg := [(411, .dup, 1), (412, .bipush 43, 2), (414, .bipush 47, 2)]) (by decide +kernel) (pc' := 416) (L' := #[.val (.int i0), .val (.int i1), .val (.int i2), .val (.int a), .val (.int b), .val (.int x), .val (.int y), .val (.int g1), .val (.int g2), .val (.ref sC), .val (.ref sP), .unset, .unset, .unset]) (S' := [(.int (47 : Int32)), (.int (43 : Int32)), (.ref ad), (.ref ad), (.ref au), (.ref au)]) rfl ?_
        refine Run.cst hK Ad ⟨by decide, by decide⟩ gdz (by decide +kernel) (fun hd43 Wd43 Bd => ?_)
        replace Ad : Arv Z hd43 ad kd .char (44 : Int32) [(.int a), (.int b), (.int (105 : Int32)), (.int (116 : Int32)), (.int (115 : Int32)), (.int (32 : Int32)), (.int (109 : Int32)), (.int (97 : Int32)), (.int (112 : Int32)), (.int (112 : Int32)), (.int (101 : Int32)), (.int (100 : Int32)), (.int (32 : Int32)), (.int (112 : Int32)), (.int (97 : Int32)), (.int (116 : Int32)), (.int (104 : Int32)), (.int (32 : Int32)), (.int (34 : Int32)), (.int x), (.int y), (.int (34 : Int32)), (.int (32 : Int32)), (.int (100 : Int32)), (.int (111 : Int32)), (.int (101 : Int32)), (.int (115 : Int32)), (.int (32 : Int32)), (.int (110 : Int32)), (.int (111 : Int32)), (.int (116 : Int32)), (.int (32 : Int32)), (.int (115 : Int32)), (.int (116 : Int32)), (.int (97 : Int32)), (.int (114 : Int32)), (.int (116 : Int32)), (.int (32 : Int32)), (.int (119 : Int32)), (.int (105 : Int32)), (.int (116 : Int32)), (.int (104 : Int32)), (.int (32 : Int32)), (.int (47 : Int32))] (.int 0) := by exact Bd
        clear Bd
        replace Vu := Vu.other Wd43 (Or.inl nud)
        replace Cu := Cu.other Wd43 (Or.inl nud)
        replace Xu := Xu.wr Wd43
        replace T0 := ext_wr T0 Wd43 gd
        clear Wd43
        refine Run.special hK (index := 9) (y := (⟨"java/lang/String", "<init>", "([C)V"⟩ : MethodName)) (Wt := 1) (kc := 4) (ks := 44) rfl (hw _ (List.mem_of_getElem? (i := 4) rfl)) (hw _ (List.mem_of_getElem? (i := 5) rfl)) (hw _ (List.mem_of_getElem? (i := 6) rfl)) (by decide) (a := au) (fun _ q => q) (cal_newS G (cs := [a, b, (105 : Int32), (116 : Int32), (115 : Int32), (32 : Int32), (109 : Int32), (97 : Int32), (112 : Int32), (112 : Int32), (101 : Int32), (100 : Int32), (32 : Int32), (112 : Int32), (97 : Int32), (116 : Int32), (104 : Int32), (32 : Int32), (34 : Int32), x, y, (34 : Int32), (32 : Int32), (100 : Int32), (111 : Int32), (101 : Int32), (115 : Int32), (32 : Int32), (110 : Int32), (111 : Int32), (116 : Int32), (32 : Int32), (115 : Int32), (116 : Int32), (97 : Int32), (114 : Int32), (116 : Int32), (32 : Int32), (119 : Int32), (105 : Int32), (116 : Int32), (104 : Int32), (32 : Int32), (47 : Int32)]) (Nat.le_trans hO5.1 gu) (by simp) Xu Vu Cu Ad rfl (Nat.le_of_ble_eq_true rfl) (fun c hc => by simp only [List.mem_cons, List.not_mem_nil, or_false] at hc; rcases hc with rfl | rfl | rfl | rfl | rfl | rfl | rfl | rfl | rfl | rfl | rfl | rfl | rfl | rfl | rfl | rfl | rfl | rfl | rfl | rfl | rfl | rfl | rfl | rfl | rfl | rfl | rfl | rfl | rfl | rfl | rfl | rfl | rfl | rfl | rfl | rfl | rfl | rfl | rfl | rfl | rfl | rfl | rfl | rfl <;> first | decide | exact b_a | exact b_b | exact b_x | exact b_y) (by decide) (by decide) (kc := 4) (ks := 44) (by decide) (by decide) (Nat.le_of_ble_eq_true rfl)) rfl (argsL := [(.ref ad)]) (rest := [(.ref au)]) (lenOf pd_s1 rfl) rfl (Nat.le_of_ble_eq_true rfl) (by decide +kernel) (by decide) (by decide) (fun vi hi qi ni => ?_)
        obtain ⟨rfl, Fi, Ki⟩ := qi
        have Ti := ext_keep T0 Ki (fun x hx => by cases List.mem_singleton.mp hx; exact gu)
        refine Run.pure hK (seg := [(420, .astore 11, 2), (422, .goto 783, 3)]) (by decide +kernel) (pc' := 1205) (L' := #[.val (.int i0), .val (.int i1), .val (.int i2), .val (.int a), .val (.int b), .val (.int x), .val (.int y), .val (.int g1), .val (.int g2), .val (.ref sC), .val (.ref sP), .val (.ref au), .unset, .unset]) (S' := []) rfl ?_
        refine Run.less (W' := []) ?_ (fun _ q => nomatch q)
        refine Run.mono (s5 _ _ ?_ Ti) (by decide) (by decide)
        rw [Cn1 r1, Cn1 r2]; exact Fi
  intro f5 sE FsE EsE
  replace FsC := FsC.ext EsE
  replace FsP := FsP.ext EsE
  refine Run.pure hK (seg := [(1205, .aload 10, 2), (1207, .aload 9, 2)]) (by decide +kernel) (pc' := 1209) (L' := #[.val (.int i0), .val (.int i1), .val (.int i2), .val (.int a), .val (.int b), .val (.int x), .val (.int y), .val (.int g1), .val (.int g2), .val (.ref sC), .val (.ref sP), .val (.ref sE), .unset, .unset]) (S' := [(.ref sC), (.ref sP)]) rfl ?_
  refine Run.staticK hK hKn (index := 12) (y := (⟨"com/example/forehall/forehall/PathTemplate", "notRooted", "(Ljava/lang/String;Ljava/lang/String;)Lcom/example/forehall/forehall/StartupException;"⟩ : MethodName)) (Wt := 0) (kc := 14) (ks := 3400) (hw _ (List.mem_of_getElem? (i := 33) rfl)) (hw _ (List.mem_of_getElem? (i := 34) rfl)) (hw _ (List.mem_of_getElem? (i := 35) rfl)) (hw _ (List.mem_of_getElem? (i := 36) rfl)) (by decide) (W' := []) (fun _ q => nomatch q) (CtrK.cal (c_nr G sP sC f5 hlt TS FsP FsC (Cn_le _ _ _) (Cn_le _ _ _)) (hw _ (List.mem_of_getElem? (i := 36) rfl)) (hw _ (List.mem_of_getElem? (i := 35) rfl)) (by decide) (by decide)) rfl (argsL := [(.ref sP), (.ref sC)]) (rest := []) (lenOf pd_nr rfl) rfl (Nat.le_of_ble_eq_true rfl) (by decide +kernel) (by decide) (by decide) (fun v6 h6 q6 n6 => ?_)
  obtain ⟨a6, s6, rfl, X6, M6, F6, E6⟩ := q6
  replace FsE := FsE.ext E6
  refine Run.pure hK (seg := [(1212, .astore 12, 2), (1214, .aload 12, 2)]) (by decide +kernel) (pc' := 1216) (L' := #[.val (.int i0), .val (.int i1), .val (.int i2), .val (.int a), .val (.int b), .val (.int x), .val (.int y), .val (.int g1), .val (.int g2), .val (.ref sC), .val (.ref sP), .val (.ref sE), .val (.ref a6), .unset]) (S' := [(.ref a6)]) rfl ?_
  refine Run.ifnnr hK (o := 5) (by decide +kernel) (by decide) (pc' := 1221) rfl ?_
  refine Run.pure hK (seg := [(1221, .aload 12, 2)]) (by decide +kernel) (pc' := 1223) (L' := #[.val (.int i0), .val (.int i1), .val (.int i2), .val (.int a), .val (.int b), .val (.int x), .val (.int y), .val (.int g1), .val (.int g2), .val (.ref sC), .val (.ref sP), .val (.ref sE), .val (.ref a6), .unset]) (S' := [(.ref a6)]) rfl ?_
  refine Run.virtualUp hK (index := 18) (y := (⟨"com/example/forehall/forehall/StartupException", "getMessage", "()Ljava/lang/String;"⟩ : MethodName)) (z := (⟨"java/lang/Throwable", "getMessage", "()Ljava/lang/String;"⟩ : MethodName)) (owner := "java/lang/Throwable") (C := "com/example/forehall/forehall/StartupException") (Wt := 0) (kc := 0) (ks := 0) (hw _ (List.mem_of_getElem? (i := 226) rfl)) (hw _ (List.mem_of_getElem? (i := 227) rfl)) (hw _ (List.mem_of_getElem? (i := 228) rfl)) (by decide) (hw _ (List.mem_of_getElem? (i := 230) rfl)) (hw _ (List.mem_of_getElem? (i := 229) rfl)) (a := a6) X6 (W' := []) (fun _ q => nomatch q) (Ctr.cal (c_gm G a6 s6 h6 M6) (hw _ (List.mem_of_getElem? (i := 231) rfl)) (hw _ (List.mem_of_getElem? (i := 187) rfl)) (by decide) (by decide)) rfl (argsL := []) (rest := []) (lenOf pd_ts rfl) rfl (Nat.le_of_ble_eq_true rfl) (by decide +kernel) (by decide) (by decide) (fun v7 h7 q7 n7 => ?_)
  obtain ⟨rfl, rfl⟩ := q7
  refine Run.pure hK (seg := [(1226, .astore 13, 2), (1228, .aload 13, 2)]) (by decide +kernel) (pc' := 1230) (L' := #[.val (.int i0), .val (.int i1), .val (.int i2), .val (.int a), .val (.int b), .val (.int x), .val (.int y), .val (.int g1), .val (.int g2), .val (.ref sC), .val (.ref sP), .val (.ref sE), .val (.ref a6), .val (.ref s6)]) (S' := [(.ref s6)]) rfl ?_
  refine Run.ifnnr hK (o := 5) (by decide +kernel) (by decide) (pc' := 1235) rfl ?_
  refine Run.pure hK (seg := [(1235, .aload 13, 2), (1237, .aload 11, 2)]) (by decide +kernel) (pc' := 1239) (L' := #[.val (.int i0), .val (.int i1), .val (.int i2), .val (.int a), .val (.int b), .val (.int x), .val (.int y), .val (.int g1), .val (.int g2), .val (.ref sC), .val (.ref sP), .val (.ref sE), .val (.ref a6), .val (.ref s6)]) (S' := [(.ref sE), (.ref s6)]) rfl ?_
  refine Run.virtual hK (index := 24) (y := (⟨"java/lang/String", "equals", "(Ljava/lang/Object;)Z"⟩ : MethodName)) (z := (⟨"java/lang/String", "equals", "(Ljava/lang/Object;)Z"⟩ : MethodName)) (C := "java/lang/String") (Wt := 0) (kc := 0) (ks := 0) (hw _ (List.mem_of_getElem? (i := 232) rfl)) (hw _ (List.mem_of_getElem? (i := 233) rfl)) (nfS (hw _ (List.mem_of_getElem? (i := 235) rfl))) (hw _ (List.mem_of_getElem? (i := 235) rfl)) (hw _ (List.mem_of_getElem? (i := 234) rfl)) (by decide) (a := s6) F6.1 (fun _ q => q) (cal_eq (g_eqW hw) (hw _ (List.mem_of_getElem? (i := 1) rfl)) F6 FsE O2 P5 (by decide) (by decide)) rfl (argsL := [(.ref sE)]) (rest := []) (lenOf pd_eq rfl) rfl (Nat.le_of_ble_eq_true rfl) (by decide +kernel) (by decide) (by decide) (fun v8 h8 q8 n8 => ?_)
  obtain ⟨rfl, rfl⟩ := q8
  rw [if_pos rfl]
  exact Run.retw hK (i := .ireturn) rfl (Or.inl ⟨rfl, Or.inr (Or.inl rfl), _, rfl⟩) (by decide +kernel) (by decide) (by decide) rfl
set_option maxRecDepth 65536 in
set_option maxHeartbeats 40000000 in
theorem comes_1 {Post : Tables → Env → Array Value → State → Outcome → State → Prop} (hpost : ∀ tb e args s v u, (limb_1_1.after args s (.returned v) u = true ∧ limb_1_2.after args s (.returned v) u = true ∧ True) → ReturnedEndW s (.returned v) u (Jvm.fieldLocs frame_1_writes args s ++ Jvm.arrayLocs frame_1_arrays args s ++ Jvm.staticLocs frame_1_statics s) 48 9280 → Post tb e args s (.returned v) u) :
    ArmFor flags0 classFile x code maxLocals ret World_1 tables_1 room_1 Calls_1 rest_1 Pre_1 Post := by
  intro l hfl _ _ p e ha hc hk s m args below hf hA hF happ hP
  obtain ⟨hcalls, hrest, hpre⟩ := hP
  obtain ⟨-, -, -, hnamed, -, -, -, hat⟩ := (Spec.applies_iff hf).mp happ
  obtain ⟨hg, hn⟩ := and_e (Cond.before_iff.mp (show (Jvm.Cond.and given_1 narrow_1).before args s = true from hpre))
  obtain ⟨k0, r0⟩ := and_e hg
  obtain ⟨k1, r1⟩ := and_e r0
  obtain ⟨k2, r2⟩ := and_e r1
  obtain ⟨w0, w1, w2, rfl⟩ : ∃ w0 w1 w2 : Value, args = #[w0, w1, w2] := by
    have hs : args.size = 3 := by simpa [Cond.value, given_1] using k0
    obtain ⟨L⟩ := args
    match L, hs with
    | [w0, w1, w2], _ => exact ⟨w0, w1, w2, rfl⟩
  have hw := fun d (hd : d ∈ tables_1) => atoms_spec (ws := Jvm.Cond.code x code maxLocals ret :: tables_1) hat d (List.mem_cons_of_mem _ hd)
  obtain ⟨i0, f0⟩ := is_v k1
  obtain rfl : w0 = (.int i0) := Option.some.inj f0
  obtain ⟨i1, f1⟩ := is_v k2
  obtain rfl : w1 = (.int i1) := Option.some.inj f1
  obtain ⟨i2, f2⟩ := is_v r2
  obtain rfl : w2 = (.int i2) := Option.some.inj f2
  obtain ⟨hsets, hown0⟩ := atoms_of _ (rest_1_c_eq ▸ (show rest_1_c.before _ s = true from hrest))
  have nz := not_v (Cond.before_iff.mp (hsets _ (List.mem_of_getElem? (i := 2) rfl)))
  obtain ⟨z0, ez⟩ := is_v (Cond.before_iff.mp (hsets _ (List.mem_of_getElem? (i := 1) rfl)))
  have O2 : Sta s s.heap "java/lang/String" "COMPACT_STRINGS" "Z" (.int z0) := Sta.start ez (Or.inl (hsets _ (List.mem_of_getElem? (i := 0) rfl)))
  have P5 : ¬ (z0 = (0 : Int32)) := gotF (Cond.eq_ints ez (Term.int_eval (0))) nz
  have hEL : EW s _ consts_1 := EW.cons (hw _ (List.mem_of_getElem? (i := 105) rfl)) (by decide) (EW.cons (hw _ (List.mem_of_getElem? (i := 129) rfl)) (by decide) (EW.cons (hw _ (List.mem_of_getElem? (i := 14) rfl)) (by decide) (EW.nil)))
  have hheld : ∀ p ∈ consts_1, Jvm.Lit.constHeld s p.1 p.2 := fun p hp => hcalls.2.2.1 p hp
  have hCH : CHv s consts_1 s.vm s.heap := CHv.start hEL hheld (show (Jvm.Cond.not (Jvm.Cond.eq (Jvm.Term.static "java/lang/String" "COMPACT_STRINGS" "Z") (Jvm.Term.int (0 : Int32)))).before _ s = true from (hsets _ (List.mem_of_getElem? (i := 2) rfl))) (hw _ (List.mem_of_getElem? (i := 15) rfl)) (hw _ (List.mem_of_getElem? (i := 1) rfl))
  obtain ⟨u0, e0, ru0⟩ := isR_v (Cond.before_iff.mp (hsets _ (List.mem_of_getElem? (i := 16) rfl)))
  obtain ⟨u1, e1, ru1⟩ := isR_v (Cond.before_iff.mp (hsets _ (List.mem_of_getElem? (i := 21) rfl)))
  have TS : ThSt s u0 u1 := ⟨Sta.start e0 (Or.inr ⟨(hw _ (List.mem_of_getElem? (i := 187) rfl)), (hw _ (List.mem_of_getElem? (i := 218) rfl))⟩), ru0, Sta.start e1 (Or.inr ⟨(hw _ (List.mem_of_getElem? (i := 187) rfl)), (hw _ (List.mem_of_getElem? (i := 219) rfl))⟩), ru1⟩
  obtain ⟨n, o, g1, g2, g3, v, Lo, rfl, hv, hF', -, hq, hwn, -⟩ := c_law (⟨hw, hEL, O2, P5, rfl⟩ : Env1 s _ z0 .null) i0 i1 i2 s.heap (by unfold Jvm.Launch.stackTraces; rw [hfl]; decide +kernel) TS p e ha hc hk s m _ below hf ((Spec.applies_iff_loose hf).mp happ).1 ⟨rfl, State.Warmed39.refl s, rfl, hCH, fun _ q => (nomatch q), Nat.le_refl _, fun _ _ q => q⟩ ⟨hcalls.1, hcalls.2.1⟩
  obtain rfl : v = some (.int 1) := hv
  refine ⟨n, _, g1, g2, g3, hpost _ _ _ _ _ _ ⟨Cond.after_iff.mpr rfl, Cond.after_iff.mpr (eq_i res_at (Term.int_eval (1)) rfl), trivial⟩ ⟨hq.1, hq.2.1, hq.2.2.1, (hq.2.2.2.sift fun y hy => Or.inr (hF' y hy)).mono (by decide) (by decide)⟩⟩
theorem main_1_1 : Claimed_1_1 := comes_1 fun _ _ _ _ _ _ h hF => ⟨h.1, hF⟩
theorem main_1_2 : Claimed_1_2 := comes_1 fun _ _ _ _ _ _ h hF => ⟨h.2.1, hF⟩
end Jvm.Pilot.@@N@@
namespace Jvm.Pilot.@@N@@
open Jvm Jvm.ClassFile Sem Op Lib Jvm.Free Jvm.Stand Jvm.Pilot.@@N@@.Jvm.D
/-! MADE BY PROGRAM (witnessworld.py) out of the Statement's table words and the real class files: 43 classes; the members and pool entries that the words name. The judged class is class 1, her method 1. -/
namespace start1
open Jvm.ClassFile
def u (s : String) : CpInfo := .utf8 (stringToUtf16 s)
/-- a pool by its gaps: so many unusable entries, then the entry; so many at the end -/
def gap : Nat → List CpInfo → List CpInfo
  | 0, r => r
  | n + 1, r => .unusable :: gap n r
def poolList (es : List (Nat × CpInfo)) (last : Nat) : List CpInfo := es.foldr (fun e r => gap e.1 (e.2 :: r)) (gap last [])
def pool (es : List (Nat × CpInfo)) (last : Nat) : Array CpInfo := ⟨poolList es last⟩
def fileOf (pool : Array CpInfo) (this : Nat) (attrs : Array Attribute := #[]) (ms : Array MethodInfo := #[]) (fl : Nat := 33) (sup : Nat := 0) (ifs : Array Nat := #[]) (fds : Array FieldInfo := #[]) : ClassFile where
  minorVersion := 0
  majorVersion := 65
  constantPool := pool
  accessFlags := fl
  thisClass := this
  superClass := sup
  interfaces := ifs
  fields := fds
  methods := ms
  attributes := attrs
def plain (name : String) (sup : Option ClassId) : Class where
  name := name
  kind := .ordinary
  loader := none
  accessFlags := 33
  super := sup
  interfaces := #[]
  cf := none
  fields := #[]
  methods := #[]
  instanceTypes := #[]
  staticTypes := #[]
  resolved := #[]
  callSites := []
  init := .initialized
  statics := none
  mirror := none

def pool0 : Array CpInfo := pool [(5, u "<init>"), (0, u "()V"), (1, .class_ 10), (1, u "java/lang/Object")] 113

def k0c0 : Code := { maxStack := 0, maxLocals := 1, code := object_method_1_code, exceptionTable := #[], attributes := #[] }
def k0m0 : Method := { name := "<init>", desc := "()V", sig := { parameters := [], returnType := none }, accessFlags := 1, code := some k0c0 }
/-- java/lang/Object -/
def k0 : Class := { plain "java/lang/Object" none with
  accessFlags := 33
  interfaces := #[]
  cf := some (fileOf pool0 8 #[] #[{ accessFlags := 1, nameIndex := 5, descriptorIndex := 6, attributes := #[] }] 33 0 #[] #[])
  fields := #[]
  methods := #[k0m0]
  instanceTypes := #[]
  staticTypes := #[]
  resolved := Array.replicate 124 none
  statics := none }

def pool1 : Array CpInfo := pool [(2, .class_ 4), (1, u "java/lang/Object"), (0, u "<init>"), (0, u "()V"), (0, .class_ 8), (0, u "java/lang/String"), (0, .methodref 7 10), (0, .nameAndType 5 11), (0, u "([C)V"), (0, .methodref 13 14), (0, .class_ 15), (0, .nameAndType 16 17), (0, u "com/example/forehall/forehall/PathTemplate"), (0, u "notRooted"), (0, u "(Ljava/lang/String;Ljava/lang/String;)Lcom/example/forehall/forehall/StartupException;"), (0, .methodref 19 20), (0, .class_ 21), (0, .nameAndType 22 23), (0, u "com/example/forehall/forehall/StartupException"), (0, u "getMessage"), (0, u "()Ljava/lang/String;"), (0, .methodref 7 25), (0, .nameAndType 26 27), (0, u "equals"), (0, u "(Ljava/lang/Object;)Z"), (0, .class_ 29), (0, u "com/example/forehall/forehall/PathTemplateNotRootedPinLaw"), (2, u "law"), (0, u "(III)Z")] 3

def k1m0 : Method := { name := "<init>", desc := "()V", sig := { parameters := [], returnType := none }, accessFlags := 1, code := none }
def k1c1 : Code := { maxStack := 6, maxLocals := 14, code := code, exceptionTable := #[], attributes := #[] }
def k1m1 : Method := { name := "law", desc := "(III)Z", sig := { parameters := [.int, .int, .int], returnType := some .boolean }, accessFlags := 9, code := some k1c1 }
/-- com/example/forehall/forehall/PathTemplateNotRootedPinLaw -/
def k1 : Class := { plain "com/example/forehall/forehall/PathTemplateNotRootedPinLaw" (some 0) with
  accessFlags := 49
  interfaces := #[]
  cf := some (fileOf pool1 28 #[] #[{ accessFlags := 1, nameIndex := 5, descriptorIndex := 6, attributes := #[] }, { accessFlags := 9, nameIndex := 32, descriptorIndex := 33, attributes := #[] }] 49 2 #[] #[])
  fields := #[]
  methods := #[k1m0, k1m1]
  instanceTypes := #[]
  staticTypes := #[]
  resolved := Array.replicate 37 none
  statics := none }

def pool2 : Array CpInfo := pool [(1, .class_ 2), (0, u "java/io/Serializable"), (0, .class_ 4), (0, u "java/lang/Object")] 2

/-- java/io/Serializable -/
def k2 : Class := { plain "java/io/Serializable" (some 0) with
  accessFlags := 1537
  interfaces := #[]
  cf := some (fileOf pool2 1 #[] #[] 1537 3 #[] #[])
  fields := #[]
  methods := #[]
  instanceTypes := #[]
  staticTypes := #[]
  resolved := Array.replicate 7 none
  statics := none }

def pool3 : Array CpInfo := pool [(1, .class_ 2), (0, u "java/lang/Comparable"), (0, .class_ 4), (0, u "java/lang/Object")] 7

/-- java/lang/Comparable -/
def k3 : Class := { plain "java/lang/Comparable" (some 0) with
  accessFlags := 1537
  interfaces := #[]
  cf := some (fileOf pool3 1 #[] #[] 1537 3 #[] #[])
  fields := #[]
  methods := #[]
  instanceTypes := #[]
  staticTypes := #[]
  resolved := Array.replicate 12 none
  statics := none }

def pool4 : Array CpInfo := pool [(2, .class_ 4), (1, u "java/lang/CharSequence"), (42, .class_ 48), (0, u "java/lang/CharSequence$1CodePointIterator"), (10, .class_ 60), (0, u "java/lang/CharSequence$1CharIterator"), (5, .class_ 67), (0, u "java/lang/Object")] 63

/-- java/lang/CharSequence -/
def k4 : Class := { plain "java/lang/CharSequence" (some 0) with
  accessFlags := 1537
  interfaces := #[]
  cf := some (fileOf pool4 2 #[.nestMembers #[47, 59]] #[] 1537 66 #[] #[])
  fields := #[]
  methods := #[]
  instanceTypes := #[]
  staticTypes := #[]
  resolved := Array.replicate 131 none
  statics := none }

def pool5 : Array CpInfo := pool [(1, .class_ 2), (0, u "java/lang/constant/Constable"), (0, .class_ 4), (0, u "java/lang/Object")] 6

/-- java/lang/constant/Constable -/
def k5 : Class := { plain "java/lang/constant/Constable" (some 0) with
  accessFlags := 1537
  interfaces := #[]
  cf := some (fileOf pool5 1 #[] #[] 1537 3 #[] #[])
  fields := #[]
  methods := #[]
  instanceTypes := #[]
  staticTypes := #[]
  resolved := Array.replicate 11 none
  statics := none }

def pool6 : Array CpInfo := pool [(1, .class_ 2), (0, u "java/lang/constant/ConstantDesc"), (0, .class_ 4), (0, u "java/lang/Object")] 32

/-- java/lang/constant/ConstantDesc -/
def k6 : Class := { plain "java/lang/constant/ConstantDesc" (some 0) with
  accessFlags := 1537
  interfaces := #[]
  cf := some (fileOf pool6 1 #[] #[] 1537 3 #[] #[])
  fields := #[]
  methods := #[]
  instanceTypes := #[]
  staticTypes := #[]
  resolved := Array.replicate 37 none
  statics := none }

def pool7 : Array CpInfo := pool [(1, .methodref 2 3), (0, .class_ 4), (0, .nameAndType 5 6), (0, u "java/lang/Object"), (0, u "<init>"), (0, u "()V"), (0, .string 8), (0, u ""), (0, .fieldref 10 11), (0, .class_ 12), (0, .nameAndType 13 14), (0, u "java/lang/String"), (0, u "value"), (0, u "[B"), (0, .fieldref 10 16), (0, .nameAndType 17 18), (0, u "coder"), (0, u "B"), (2, u "hash"), (0, u "I"), (2, u "hashIsZero"), (0, u "Z"), (0, .methodref 10 28), (0, .nameAndType 5 29), (0, u "([CIILjava/lang/Void;)V"), (8, .fieldref 10 39), (0, .nameAndType 40 26), (0, u "COMPACT_STRINGS"), (1, .class_ 44), (1, u "java/lang/StringUTF16"), (0, u "compress"), (1, .methodref 42 48), (0, .nameAndType 49 50), (0, u "coderFromArrayLen"), (0, u "([BI)B"), (3, .methodref 55 56), (0, .class_ 57), (0, .nameAndType 58 59), (0, u "java/util/Arrays"), (0, u "copyOfRange"), (0, u "([BII)[B"), (47, .class_ 109), (1, u "java/lang/StringLatin1"), (32, u "()Z"), (34, .methodref 42 178), (0, .nameAndType 45 179), (0, u "([CII)[B"), (13, .class_ 195), (1, u "java/lang/System"), (16, .methodref 193 213), (0, .nameAndType 214 215), (0, u "arraycopy"), (0, u "(Ljava/lang/Object;ILjava/lang/Object;II)V"), (118, u "()I"), (0, .methodref 10 336), (0, .nameAndType 17 337), (0, u "()B"), (2, u "()[B"), (148, .methodref 10 490), (0, .nameAndType 5 491), (0, u "(Ljava/lang/AbstractStringBuilder;Ljava/lang/Void;)V"), (1, .nameAndType 494 142), (0, u "isLatin1"), (11, .nameAndType 507 334), (0, u "length"), (24, u "getBytes"), (8, .methodref 107 542), (0, .nameAndType 543 544), (0, u "equals"), (0, u "([B[B)Z"), (4, .methodref 550 506), (0, .class_ 551), (0, u "java/lang/AbstractStringBuilder"), (0, .methodref 550 553), (0, .nameAndType 554 340), (0, u "getValue"), (18, u "(Ljava/lang/Object;)Z"), (1, .class_ 576), (0, u "java/lang/CharSequence"), (22, u "CASE_INSENSITIVE_ORDER"), (0, u "Ljava/util/Comparator;"), (220, u "([BIB)V"), (188, u "([C)V"), (36, .methodref 550 493), (53, u "serialPersistentFields"), (0, u "[Ljava/io/ObjectStreamField;"), (0, .class_ 1104), (0, u "java/lang/String$CaseInsensitiveComparator"), (1, .class_ 1107), (0, u "java/io/Serializable"), (0, .class_ 1109), (0, u "java/lang/Comparable"), (0, .class_ 1111), (0, u "java/lang/constant/Constable"), (0, .class_ 1113), (0, u "java/lang/constant/ConstantDesc"), (2, u "serialVersionUID"), (0, u "J"), (3, u "REPL"), (0, u "C"), (2, u "LATIN1"), (1, u "UTF16"), (105, u "(Ljava/lang/StringBuilder;)V")] 217

def k7m0 : Method := { name := "<init>", desc := "()V", sig := { parameters := [], returnType := none }, accessFlags := 1, code := none }
def k7c1 : Code := { maxStack := 5, maxLocals := 2, code := jdk_42_method_3_code, exceptionTable := #[], attributes := #[] }
def k7m1 : Method := { name := "<init>", desc := "([C)V", sig := { parameters := [(.array .char)], returnType := none }, accessFlags := 1, code := some k7c1 }
def k7c2 : Code := { maxStack := 3, maxLocals := 2, code := jdk_42_method_53_code, exceptionTable := #[], attributes := #[] }
def k7m2 : Method := { name := "<init>", desc := "(Ljava/lang/StringBuilder;)V", sig := { parameters := [(.object "java/lang/StringBuilder")], returnType := none }, accessFlags := 1, code := some k7c2 }
def k7c3 : Code := { maxStack := 2, maxLocals := 1, code := jdk_42_method_54_code, exceptionTable := #[], attributes := #[] }
def k7m3 : Method := { name := "length", desc := "()I", sig := { parameters := [], returnType := some .int }, accessFlags := 1, code := some k7c3 }
def k7c4 : Code := { maxStack := 2, maxLocals := 3, code := jdk_42_method_66_code, exceptionTable := #[], attributes := #[] }
def k7m4 : Method := { name := "equals", desc := "(Ljava/lang/Object;)Z", sig := { parameters := [(.object "java/lang/Object")], returnType := some .boolean }, accessFlags := 1, code := some k7c4 }
def k7c5 : Code := { maxStack := 5, maxLocals := 4, code := jdk_42_method_147_code, exceptionTable := #[], attributes := #[] }
def k7m5 : Method := { name := "getBytes", desc := "([BIB)V", sig := { parameters := [(.array .byte), .int, .byte], returnType := none }, accessFlags := 0, code := some k7c5 }
def k7c6 : Code := { maxStack := 4, maxLocals := 6, code := jdk_42_method_149_code, exceptionTable := #[], attributes := #[] }
def k7m6 : Method := { name := "<init>", desc := "([CIILjava/lang/Void;)V", sig := { parameters := [(.array .char), .int, .int, (.object "java/lang/Void")], returnType := none }, accessFlags := 2, code := some k7c6 }
def k7c7 : Code := { maxStack := 5, maxLocals := 5, code := jdk_42_method_150_code, exceptionTable := #[], attributes := #[] }
def k7m7 : Method := { name := "<init>", desc := "(Ljava/lang/AbstractStringBuilder;Ljava/lang/Void;)V", sig := { parameters := [(.object "java/lang/AbstractStringBuilder"), (.object "java/lang/Void")], returnType := none }, accessFlags := 0, code := some k7c7 }
def k7c8 : Code := { maxStack := 1, maxLocals := 1, code := jdk_42_method_152_code, exceptionTable := #[], attributes := #[] }
def k7m8 : Method := { name := "coder", desc := "()B", sig := { parameters := [], returnType := some .byte }, accessFlags := 0, code := some k7c8 }
/-- java/lang/String -/
def k7 : Class := { plain "java/lang/String" (some 0) with
  accessFlags := 49
  interfaces := #[2, 3, 4, 5, 6]
  cf := some (fileOf pool7 10 #[.nestMembers #[1103]] #[{ accessFlags := 1, nameIndex := 5, descriptorIndex := 6, attributes := #[] }, { accessFlags := 1, nameIndex := 5, descriptorIndex := 1010, attributes := #[] }, { accessFlags := 1, nameIndex := 5, descriptorIndex := 1233, attributes := #[] }, { accessFlags := 1, nameIndex := 507, descriptorIndex := 334, attributes := #[] }, { accessFlags := 1, nameIndex := 543, descriptorIndex := 573, attributes := #[] }, { accessFlags := 0, nameIndex := 532, descriptorIndex := 821, attributes := #[] }, { accessFlags := 2, nameIndex := 5, descriptorIndex := 29, attributes := #[] }, { accessFlags := 0, nameIndex := 5, descriptorIndex := 491, attributes := #[] }, { accessFlags := 0, nameIndex := 17, descriptorIndex := 337, attributes := #[] }] 49 2 #[1106, 1108, 575, 1110, 1112] #[{ accessFlags := 18, nameIndex := 13, descriptorIndex := 14, attributes := #[] }, { accessFlags := 18, nameIndex := 17, descriptorIndex := 18, attributes := #[] }, { accessFlags := 2, nameIndex := 21, descriptorIndex := 22, attributes := #[] }, { accessFlags := 2, nameIndex := 25, descriptorIndex := 26, attributes := #[] }, { accessFlags := 26, nameIndex := 1116, descriptorIndex := 1117, attributes := #[] }, { accessFlags := 24, nameIndex := 40, descriptorIndex := 26, attributes := #[] }, { accessFlags := 26, nameIndex := 1101, descriptorIndex := 1102, attributes := #[] }, { accessFlags := 26, nameIndex := 1121, descriptorIndex := 1122, attributes := #[] }, { accessFlags := 25, nameIndex := 599, descriptorIndex := 600, attributes := #[] }, { accessFlags := 24, nameIndex := 1125, descriptorIndex := 18, attributes := #[] }, { accessFlags := 24, nameIndex := 1127, descriptorIndex := 18, attributes := #[] }])
  fields := #[{ name := "value", type := (.array .byte), accessFlags := 18, slot := 0, constantValue := 0 }, { name := "coder", type := .byte, accessFlags := 18, slot := 1, constantValue := 0 }, { name := "hash", type := .int, accessFlags := 2, slot := 2, constantValue := 0 }, { name := "hashIsZero", type := .boolean, accessFlags := 2, slot := 3, constantValue := 0 }, { name := "serialVersionUID", type := .long, accessFlags := 26, slot := 0, constantValue := 0 }, { name := "COMPACT_STRINGS", type := .boolean, accessFlags := 24, slot := 1, constantValue := 0 }, { name := "serialPersistentFields", type := (.array (.object "java/io/ObjectStreamField")), accessFlags := 26, slot := 2, constantValue := 0 }, { name := "REPL", type := .char, accessFlags := 26, slot := 3, constantValue := 0 }, { name := "CASE_INSENSITIVE_ORDER", type := (.object "java/util/Comparator"), accessFlags := 25, slot := 4, constantValue := 0 }, { name := "LATIN1", type := .byte, accessFlags := 24, slot := 5, constantValue := 0 }, { name := "UTF16", type := .byte, accessFlags := 24, slot := 6, constantValue := 0 }]
  methods := #[k7m0, k7m1, k7m2, k7m3, k7m4, k7m5, k7m6, k7m7, k7m8]
  instanceTypes := #[(.array .byte), .byte, .int, .boolean]
  staticTypes := #[.long, .boolean, (.array (.object "java/io/ObjectStreamField")), .char, (.object "java/util/Comparator"), .byte, .byte]
  resolved := Array.replicate 1451 none
  statics := some 0 }

def pool8 : Array CpInfo := pool [(6, .class_ 8), (1, u "java/lang/Object"), (0, u "<init>"), (0, u "()V"), (1, .class_ 14), (1, u "java/lang/StringUTF16"), (31, u "$assertionsDisabled"), (0, u "Z"), (13, u "HI_BYTE_SHIFT"), (0, u "I"), (2, u "LO_BYTE_SHIFT"), (49, .methodref 12 116), (0, .nameAndType 117 118), (0, u "compress"), (0, u "([CI[BII)I"), (3, u "([CII)[B"), (138, u "coderFromArrayLen"), (0, u "([BI)B"), (106, .class_ 371), (1, u "java/lang/StringUTF16$LinesSpliterator"), (58, u "MAX_LENGTH"), (196, .class_ 628), (0, u "java/lang/StringUTF16$CodePointsSpliterator"), (0, .class_ 630), (0, u "java/lang/StringUTF16$CharsSpliterator")] 4

def k8m0 : Method := { name := "<init>", desc := "()V", sig := { parameters := [], returnType := none }, accessFlags := 0, code := none }
def k8c1 : Code := { maxStack := 2, maxLocals := 2, code := jdk_52_method_15_code, exceptionTable := #[], attributes := #[] }
def k8m1 : Method := { name := "coderFromArrayLen", desc := "([BI)B", sig := { parameters := [(.array .byte), .int], returnType := some .byte }, accessFlags := 8, code := some k8c1 }
def k8c2 : Code := { maxStack := 5, maxLocals := 6, code := jdk_52_method_16_code, exceptionTable := #[], attributes := #[] }
def k8m2 : Method := { name := "compress", desc := "([CII)[B", sig := { parameters := [(.array .char), .int, .int], returnType := some (.array .byte) }, accessFlags := 9, code := some k8c2 }
def k8c3 : Code := { maxStack := 3, maxLocals := 7, code := jdk_52_method_21_code, exceptionTable := #[], attributes := #[] }
def k8m3 : Method := { name := "compress", desc := "([CI[BII)I", sig := { parameters := [(.array .char), .int, (.array .byte), .int, .int], returnType := some .int }, accessFlags := 9, code := some k8c3 }
/-- java/lang/StringUTF16 -/
def k8 : Class := { plain "java/lang/StringUTF16" (some 0) with
  accessFlags := 48
  interfaces := #[]
  cf := some (fileOf pool8 12 #[.nestMembers #[627, 629, 369]] #[{ accessFlags := 0, nameIndex := 9, descriptorIndex := 10, attributes := #[] }, { accessFlags := 8, nameIndex := 261, descriptorIndex := 262, attributes := #[] }, { accessFlags := 9, nameIndex := 117, descriptorIndex := 122, attributes := #[] }, { accessFlags := 9, nameIndex := 117, descriptorIndex := 118, attributes := #[] }] 48 6 #[] #[{ accessFlags := 26, nameIndex := 61, descriptorIndex := 62, attributes := #[] }, { accessFlags := 26, nameIndex := 65, descriptorIndex := 62, attributes := #[] }, { accessFlags := 24, nameIndex := 430, descriptorIndex := 62, attributes := #[] }, { accessFlags := 4120, nameIndex := 46, descriptorIndex := 47, attributes := #[] }])
  fields := #[{ name := "HI_BYTE_SHIFT", type := .int, accessFlags := 26, slot := 0, constantValue := 0 }, { name := "LO_BYTE_SHIFT", type := .int, accessFlags := 26, slot := 1, constantValue := 0 }, { name := "MAX_LENGTH", type := .int, accessFlags := 24, slot := 2, constantValue := 0 }, { name := "$assertionsDisabled", type := .boolean, accessFlags := 4120, slot := 3, constantValue := 0 }]
  methods := #[k8m0, k8m1, k8m2, k8m3]
  instanceTypes := #[]
  staticTypes := #[.int, .int, .int, .boolean]
  resolved := Array.replicate 635 none
  statics := none }

def pool9 : Array CpInfo := pool [(2, .class_ 4), (0, .nameAndType 5 6), (0, u "java/lang/Object"), (0, u "<init>"), (0, u "()V"), (1, .class_ 10), (1, u "com/example/forehall/forehall/PathTemplate"), (0, u "text"), (0, u "Ljava/lang/String;"), (2, u "segments"), (0, u "Ljava/util/List;"), (10, u "notRooted"), (0, u "(Ljava/lang/String;Ljava/lang/String;)Lcom/example/forehall/forehall/StartupException;"), (0, .class_ 30), (0, u "java/lang/StringBuilder"), (0, .methodref 29 3), (0, .methodref 29 33), (0, .nameAndType 34 35), (0, u "append"), (0, u "(Ljava/lang/String;)Ljava/lang/StringBuilder;"), (4, .methodref 29 41), (0, .nameAndType 42 43), (0, u "toString"), (0, u "()Ljava/lang/String;"), (21, .class_ 66), (0, u "com/example/forehall/forehall/StartupException"), (2, .methodref 65 70), (0, .nameAndType 5 71), (0, u "(Ljava/lang/String;)V"), (31, .string 104), (0, u "its mapped path \""), (0, .string 106), (0, u "\" does not start with /")] 47

def k9c0 : Code := { maxStack := 4, maxLocals := 2, code := prog_11_method_3_code, exceptionTable := #[], attributes := #[] }
def k9m0 : Method := { name := "notRooted", desc := "(Ljava/lang/String;Ljava/lang/String;)Lcom/example/forehall/forehall/StartupException;", sig := { parameters := [(.object "java/lang/String"), (.object "java/lang/String")], returnType := some (.object "com/example/forehall/forehall/StartupException") }, accessFlags := 8, code := some k9c0 }
/-- com/example/forehall/forehall/PathTemplate -/
def k9 : Class := { plain "com/example/forehall/forehall/PathTemplate" (some 0) with
  accessFlags := 48
  interfaces := #[]
  cf := some (fileOf pool9 8 #[] #[{ accessFlags := 8, nameIndex := 27, descriptorIndex := 28, attributes := #[] }] 48 2 #[] #[{ accessFlags := 18, nameIndex := 11, descriptorIndex := 12, attributes := #[] }, { accessFlags := 18, nameIndex := 15, descriptorIndex := 16, attributes := #[] }])
  fields := #[{ name := "text", type := (.object "java/lang/String"), accessFlags := 18, slot := 0, constantValue := 0 }, { name := "segments", type := (.object "java/util/List"), accessFlags := 18, slot := 1, constantValue := 0 }]
  methods := #[k9m0]
  instanceTypes := #[(.object "java/lang/String"), (.object "java/util/List")]
  staticTypes := #[]
  resolved := Array.replicate 154 none
  statics := none }

def pool10 : Array CpInfo := pool [(1, .methodref 2 3), (0, .class_ 4), (0, .nameAndType 5 6), (0, u "java/lang/Object"), (0, u "<init>"), (0, u "()V"), (0, .fieldref 8 9), (0, .class_ 10), (0, .nameAndType 11 12), (0, u "java/lang/Throwable"), (0, u "cause"), (0, u "Ljava/lang/Throwable;"), (0, .fieldref 8 14), (0, .nameAndType 15 16), (0, u "UNASSIGNED_STACK"), (0, u "[Ljava/lang/StackTraceElement;"), (0, .fieldref 8 18), (0, .nameAndType 19 16), (0, u "stackTrace"), (0, .fieldref 8 21), (0, .nameAndType 22 23), (0, u "SUPPRESSED_SENTINEL"), (0, u "Ljava/util/List;"), (0, .fieldref 8 25), (0, .nameAndType 26 23), (0, u "suppressedExceptions"), (0, .methodref 8 28), (0, .nameAndType 29 30), (0, u "fillInStackTrace"), (0, u "()Ljava/lang/Throwable;"), (0, .fieldref 8 32), (0, .nameAndType 33 34), (0, u "detailMessage"), (0, u "Ljava/lang/String;"), (3, u "()Ljava/lang/String;"), (2, u "getMessage"), (51, .class_ 94), (0, u "java/lang/Throwable$WrappedPrintStream"), (6, .class_ 103), (1, u "java/lang/Throwable$PrintStreamOrWriter"), (61, u "$assertionsDisabled"), (0, u "Z"), (26, .class_ 194), (0, u "java/lang/Throwable$WrappedPrintWriter"), (3, .fieldref 8 199), (0, .nameAndType 200 201), (0, u "backtrace"), (0, u "Ljava/lang/Object;"), (0, .methodref 8 203), (0, .nameAndType 29 204), (0, u "(I)Ljava/lang/Throwable;"), (6, u "depth"), (0, u "I"), (10, u "(Ljava/lang/String;)V"), (45, .class_ 271), (1, u "java/lang/Throwable$SentinelHolder"), (32, u "EMPTY_THROWABLE_ARRAY"), (0, u "[Ljava/lang/Throwable;"), (12, .class_ 319), (0, u "java/io/Serializable"), (0, u "serialVersionUID"), (0, u "J"), (5, u "NULL_CAUSE_MESSAGE"), (0, u "SELF_SUPPRESSION_MESSAGE"), (0, u "CAUSE_CAPTION"), (0, u "SUPPRESSED_CAPTION")] 73

def k10c0 : Code := { maxStack := 2, maxLocals := 1, code := jdk_78_method_1_code, exceptionTable := #[], attributes := #[] }
def k10m0 : Method := { name := "<init>", desc := "()V", sig := { parameters := [], returnType := none }, accessFlags := 1, code := some k10c0 }
def k10c1 : Code := { maxStack := 2, maxLocals := 2, code := jdk_78_method_2_code, exceptionTable := #[], attributes := #[] }
def k10m1 : Method := { name := "<init>", desc := "(Ljava/lang/String;)V", sig := { parameters := [(.object "java/lang/String")], returnType := none }, accessFlags := 1, code := some k10c1 }
def k10c2 : Code := { maxStack := 1, maxLocals := 1, code := jdk_78_method_6_code, exceptionTable := #[], attributes := #[] }
def k10m2 : Method := { name := "getMessage", desc := "()Ljava/lang/String;", sig := { parameters := [], returnType := some (.object "java/lang/String") }, accessFlags := 1, code := some k10c2 }
def k10c3 : Code := { maxStack := 2, maxLocals := 1, code := ⟨#[0x2a, 0xb4, 0x00, 0x11, 0xc7, 0x00, 0x0a, 0x2a, 0xb4, 0x00, 0xc6, 0xc6, 0x00, 0x10, 0x2a, 0x03, 0xb6, 0x00, 0xca, 0x57, 0x2a, 0xb2, 0x00, 0x0d, 0xb5, 0x00, 0x11, 0x2a, 0xb0]⟩, exceptionTable := #[], attributes := #[] }
def k10m3 : Method := { name := "fillInStackTrace", desc := "()Ljava/lang/Throwable;", sig := { parameters := [], returnType := some (.object "java/lang/Throwable") }, accessFlags := 33, code := some k10c3 }
def k10m4 : Method := { name := "fillInStackTrace", desc := "(I)Ljava/lang/Throwable;", sig := { parameters := [.int], returnType := some (.object "java/lang/Throwable") }, accessFlags := 258, code := none }
/-- java/lang/Throwable -/
def k10 : Class := { plain "java/lang/Throwable" (some 0) with
  accessFlags := 33
  interfaces := #[2]
  cf := some (fileOf pool10 8 #[.nestMembers #[193, 93, 101, 269]] #[{ accessFlags := 1, nameIndex := 5, descriptorIndex := 6, attributes := #[] }, { accessFlags := 1, nameIndex := 5, descriptorIndex := 223, attributes := #[] }, { accessFlags := 1, nameIndex := 41, descriptorIndex := 38, attributes := #[] }, { accessFlags := 33, nameIndex := 29, descriptorIndex := 30, attributes := #[] }, { accessFlags := 258, nameIndex := 29, descriptorIndex := 204, attributes := #[] }] 33 2 #[318] #[{ accessFlags := 26, nameIndex := 320, descriptorIndex := 321, attributes := #[] }, { accessFlags := 130, nameIndex := 200, descriptorIndex := 201, attributes := #[] }, { accessFlags := 2, nameIndex := 33, descriptorIndex := 34, attributes := #[] }, { accessFlags := 26, nameIndex := 15, descriptorIndex := 16, attributes := #[] }, { accessFlags := 2, nameIndex := 11, descriptorIndex := 12, attributes := #[] }, { accessFlags := 2, nameIndex := 19, descriptorIndex := 16, attributes := #[] }, { accessFlags := 130, nameIndex := 211, descriptorIndex := 212, attributes := #[] }, { accessFlags := 26, nameIndex := 22, descriptorIndex := 23, attributes := #[] }, { accessFlags := 2, nameIndex := 26, descriptorIndex := 23, attributes := #[] }, { accessFlags := 26, nameIndex := 327, descriptorIndex := 34, attributes := #[] }, { accessFlags := 26, nameIndex := 328, descriptorIndex := 34, attributes := #[] }, { accessFlags := 26, nameIndex := 329, descriptorIndex := 34, attributes := #[] }, { accessFlags := 26, nameIndex := 330, descriptorIndex := 34, attributes := #[] }, { accessFlags := 26, nameIndex := 304, descriptorIndex := 305, attributes := #[] }, { accessFlags := 4120, nameIndex := 165, descriptorIndex := 166, attributes := #[] }])
  fields := #[{ name := "serialVersionUID", type := .long, accessFlags := 26, slot := 0, constantValue := 0 }, { name := "backtrace", type := (.object "java/lang/Object"), accessFlags := 130, slot := 0, constantValue := 0 }, { name := "detailMessage", type := (.object "java/lang/String"), accessFlags := 2, slot := 1, constantValue := 0 }, { name := "UNASSIGNED_STACK", type := (.array (.object "java/lang/StackTraceElement")), accessFlags := 26, slot := 1, constantValue := 0 }, { name := "cause", type := (.object "java/lang/Throwable"), accessFlags := 2, slot := 2, constantValue := 0 }, { name := "stackTrace", type := (.array (.object "java/lang/StackTraceElement")), accessFlags := 2, slot := 3, constantValue := 0 }, { name := "depth", type := .int, accessFlags := 130, slot := 4, constantValue := 0 }, { name := "SUPPRESSED_SENTINEL", type := (.object "java/util/List"), accessFlags := 26, slot := 2, constantValue := 0 }, { name := "suppressedExceptions", type := (.object "java/util/List"), accessFlags := 2, slot := 5, constantValue := 0 }, { name := "NULL_CAUSE_MESSAGE", type := (.object "java/lang/String"), accessFlags := 26, slot := 3, constantValue := 0 }, { name := "SELF_SUPPRESSION_MESSAGE", type := (.object "java/lang/String"), accessFlags := 26, slot := 4, constantValue := 0 }, { name := "CAUSE_CAPTION", type := (.object "java/lang/String"), accessFlags := 26, slot := 5, constantValue := 0 }, { name := "SUPPRESSED_CAPTION", type := (.object "java/lang/String"), accessFlags := 26, slot := 6, constantValue := 0 }, { name := "EMPTY_THROWABLE_ARRAY", type := (.array (.object "java/lang/Throwable")), accessFlags := 26, slot := 7, constantValue := 0 }, { name := "$assertionsDisabled", type := .boolean, accessFlags := 4120, slot := 8, constantValue := 0 }]
  methods := #[k10m0, k10m1, k10m2, k10m3, k10m4]
  instanceTypes := #[(.object "java/lang/Object"), (.object "java/lang/String"), (.object "java/lang/Throwable"), (.array (.object "java/lang/StackTraceElement")), .int, (.object "java/util/List")]
  staticTypes := #[.long, (.array (.object "java/lang/StackTraceElement")), (.object "java/util/List"), (.object "java/lang/String"), (.object "java/lang/String"), (.object "java/lang/String"), (.object "java/lang/String"), (.array (.object "java/lang/Throwable")), .boolean]
  resolved := Array.replicate 404 none
  statics := some 1 }

def pool11 : Array CpInfo := pool [(2, .class_ 4), (1, u "java/lang/Throwable"), (0, u "<init>"), (0, u "()V"), (0, .methodref 2 8), (0, .nameAndType 5 9), (0, u "(Ljava/lang/String;)V"), (9, .class_ 20), (0, u "java/lang/Exception"), (0, u "serialVersionUID"), (0, u "J")] 17

def k11m0 : Method := { name := "<init>", desc := "()V", sig := { parameters := [], returnType := none }, accessFlags := 1, code := none }
def k11c1 : Code := { maxStack := 2, maxLocals := 2, code := jdk_59_method_2_code, exceptionTable := #[], attributes := #[] }
def k11m1 : Method := { name := "<init>", desc := "(Ljava/lang/String;)V", sig := { parameters := [(.object "java/lang/String")], returnType := none }, accessFlags := 1, code := some k11c1 }
/-- java/lang/Exception -/
def k11 : Class := { plain "java/lang/Exception" (some 10) with
  accessFlags := 33
  interfaces := #[]
  cf := some (fileOf pool11 19 #[] #[{ accessFlags := 1, nameIndex := 5, descriptorIndex := 6, attributes := #[] }, { accessFlags := 1, nameIndex := 5, descriptorIndex := 9, attributes := #[] }] 33 2 #[] #[{ accessFlags := 24, nameIndex := 21, descriptorIndex := 22, attributes := #[] }])
  fields := #[{ name := "serialVersionUID", type := .long, accessFlags := 24, slot := 0, constantValue := 0 }]
  methods := #[k11m0, k11m1]
  instanceTypes := #[(.object "java/lang/Object"), (.object "java/lang/String"), (.object "java/lang/Throwable"), (.array (.object "java/lang/StackTraceElement")), .int, (.object "java/util/List")]
  staticTypes := #[.long]
  resolved := Array.replicate 40 none
  statics := none }

def pool12 : Array CpInfo := pool [(2, .class_ 4), (1, u "java/lang/Exception"), (0, u "<init>"), (0, u "()V"), (0, .methodref 2 8), (0, .nameAndType 5 9), (0, u "(Ljava/lang/String;)V"), (9, .class_ 20), (0, u "java/lang/RuntimeException"), (0, u "serialVersionUID"), (0, u "J")] 17

def k12m0 : Method := { name := "<init>", desc := "()V", sig := { parameters := [], returnType := none }, accessFlags := 1, code := none }
def k12c1 : Code := { maxStack := 2, maxLocals := 2, code := jdk_58_method_2_code, exceptionTable := #[], attributes := #[] }
def k12m1 : Method := { name := "<init>", desc := "(Ljava/lang/String;)V", sig := { parameters := [(.object "java/lang/String")], returnType := none }, accessFlags := 1, code := some k12c1 }
/-- java/lang/RuntimeException -/
def k12 : Class := { plain "java/lang/RuntimeException" (some 11) with
  accessFlags := 33
  interfaces := #[]
  cf := some (fileOf pool12 19 #[] #[{ accessFlags := 1, nameIndex := 5, descriptorIndex := 6, attributes := #[] }, { accessFlags := 1, nameIndex := 5, descriptorIndex := 9, attributes := #[] }] 33 2 #[] #[{ accessFlags := 24, nameIndex := 21, descriptorIndex := 22, attributes := #[] }])
  fields := #[{ name := "serialVersionUID", type := .long, accessFlags := 24, slot := 0, constantValue := 0 }]
  methods := #[k12m0, k12m1]
  instanceTypes := #[(.object "java/lang/Object"), (.object "java/lang/String"), (.object "java/lang/Throwable"), (.array (.object "java/lang/StackTraceElement")), .int, (.object "java/util/List")]
  staticTypes := #[.long]
  resolved := Array.replicate 40 none
  statics := none }

def pool13 : Array CpInfo := pool [(1, .methodref 2 3), (0, .class_ 4), (0, .nameAndType 5 6), (0, u "java/lang/RuntimeException"), (0, u "<init>"), (0, u "(Ljava/lang/String;)V"), (10, .class_ 19), (1, u "com/example/forehall/forehall/StartupException"), (19, u "serialVersionUID"), (0, u "J")] 8

def k13c0 : Code := { maxStack := 2, maxLocals := 2, code := prog_22_method_1_code, exceptionTable := #[], attributes := #[] }
def k13m0 : Method := { name := "<init>", desc := "(Ljava/lang/String;)V", sig := { parameters := [(.object "java/lang/String")], returnType := none }, accessFlags := 0, code := some k13c0 }
/-- com/example/forehall/forehall/StartupException -/
def k13 : Class := { plain "com/example/forehall/forehall/StartupException" (some 12) with
  accessFlags := 48
  interfaces := #[]
  cf := some (fileOf pool13 17 #[] #[{ accessFlags := 0, nameIndex := 5, descriptorIndex := 6, attributes := #[] }] 48 2 #[] #[{ accessFlags := 26, nameIndex := 39, descriptorIndex := 40, attributes := #[] }])
  fields := #[{ name := "serialVersionUID", type := .long, accessFlags := 26, slot := 0, constantValue := 0 }]
  methods := #[k13m0]
  instanceTypes := #[(.object "java/lang/Object"), (.object "java/lang/String"), (.object "java/lang/Throwable"), (.array (.object "java/lang/StackTraceElement")), .int, (.object "java/util/List")]
  staticTypes := #[.long]
  resolved := Array.replicate 49 none
  statics := none }

def pool14 : Array CpInfo := pool [(1, .class_ 2), (0, u "java/lang/Appendable"), (0, .class_ 4), (0, u "java/lang/Object")] 9

/-- java/lang/Appendable -/
def k14 : Class := { plain "java/lang/Appendable" (some 0) with
  accessFlags := 1537
  interfaces := #[]
  cf := some (fileOf pool14 1 #[] #[] 1537 3 #[] #[])
  fields := #[]
  methods := #[]
  instanceTypes := #[]
  staticTypes := #[]
  resolved := Array.replicate 14 none
  statics := none }

def pool15 : Array CpInfo := pool [(1, .class_ 2), (0, u "java/lang/String"), (0, .methodref 4 5), (0, .class_ 6), (0, .nameAndType 7 8), (0, u "java/lang/Object"), (0, u "<init>"), (0, u "()V"), (1, .class_ 12), (1, u "java/lang/AbstractStringBuilder"), (0, u "EMPTYVALUE"), (0, u "[B"), (0, .fieldref 10 16), (0, .nameAndType 17 14), (0, u "value"), (0, .fieldref 1 19), (0, .nameAndType 20 21), (0, u "COMPACT_STRINGS"), (0, u "Z"), (0, .fieldref 10 23), (0, .nameAndType 24 25), (0, u "coder"), (0, u "B"), (6, .methodref 1 33), (0, .nameAndType 34 35), (0, u "length"), (0, u "()I"), (3, .integer 2147483647), (0, .methodref 1 41), (0, .nameAndType 24 42), (0, u "()B"), (2, u "append"), (0, u "(Ljava/lang/String;)Ljava/lang/AbstractStringBuilder;"), (1, .class_ 49), (0, u "java/lang/CharSequence"), (19, u "(Ljava/lang/String;)V"), (5, u "maybeLatin1"), (3, .fieldref 10 80), (0, .nameAndType 81 82), (0, u "count"), (0, u "I"), (2, u "isLatin1"), (0, u "()Z"), (13, .methodref 10 101), (0, .nameAndType 102 103), (0, u "ensureCapacityInternal"), (0, u "(I)V"), (0, .methodref 10 105), (0, .nameAndType 106 107), (0, u "newCapacity"), (0, u "(I)I"), (0, .methodref 109 110), (0, .class_ 111), (0, .nameAndType 112 113), (0, u "java/util/Arrays"), (0, u "copyOf"), (0, u "([BI)[B"), (0, .methodref 115 116), (0, .class_ 117), (0, .nameAndType 118 119), (0, u "jdk/internal/util/ArraysSupport"), (0, u "newLength"), (0, u "(III)I"), (88, .methodref 10 209), (0, .nameAndType 210 211), (0, u "putStringAt"), (0, u "(ILjava/lang/String;)V"), (5, u "inflateIfNeededFor"), (2, .nameAndType 221 222), (0, u "getBytes"), (0, u "([BIB)V"), (174, .methodref 10 398), (0, .nameAndType 217 69), (0, .methodref 1 220), (3, u "()[B"), (40, .class_ 445), (0, u "java/lang/Appendable"), (106, u "getValue")] 56

def k15m0 : Method := { name := "<init>", desc := "()V", sig := { parameters := [], returnType := none }, accessFlags := 0, code := none }
def k15c1 : Code := { maxStack := 2, maxLocals := 2, code := jdk_68_method_2_code, exceptionTable := #[], attributes := #[] }
def k15m1 : Method := { name := "<init>", desc := "(I)V", sig := { parameters := [.int], returnType := none }, accessFlags := 0, code := some k15c1 }
def k15c2 : Code := { maxStack := 1, maxLocals := 1, code := jdk_68_method_6_code, exceptionTable := #[], attributes := #[] }
def k15m2 : Method := { name := "length", desc := "()I", sig := { parameters := [], returnType := some .int }, accessFlags := 1, code := some k15c2 }
def k15c3 : Code := { maxStack := 4, maxLocals := 3, code := jdk_68_method_9_code, exceptionTable := #[], attributes := #[] }
def k15m3 : Method := { name := "ensureCapacityInternal", desc := "(I)V", sig := { parameters := [.int], returnType := none }, accessFlags := 2, code := some k15c3 }
def k15c4 : Code := { maxStack := 5, maxLocals := 6, code := jdk_68_method_10_code, exceptionTable := #[], attributes := #[] }
def k15m4 : Method := { name := "newCapacity", desc := "(I)I", sig := { parameters := [.int], returnType := some .int }, accessFlags := 2, code := some k15c4 }
def k15c5 : Code := { maxStack := 3, maxLocals := 3, code := jdk_68_method_22_code, exceptionTable := #[], attributes := #[] }
def k15m5 : Method := { name := "append", desc := "(Ljava/lang/String;)Ljava/lang/AbstractStringBuilder;", sig := { parameters := [(.object "java/lang/String")], returnType := some (.object "java/lang/AbstractStringBuilder") }, accessFlags := 1, code := some k15c5 }
def k15c6 : Code := { maxStack := 1, maxLocals := 1, code := jdk_68_method_64_code, exceptionTable := #[], attributes := #[] }
def k15m6 : Method := { name := "getValue", desc := "()[B", sig := { parameters := [], returnType := some (.array .byte) }, accessFlags := 16, code := some k15c6 }
def k15c7 : Code := { maxStack := 1, maxLocals := 1, code := jdk_68_method_68_code, exceptionTable := #[], attributes := #[] }
def k15m7 : Method := { name := "isLatin1", desc := "()Z", sig := { parameters := [], returnType := some .boolean }, accessFlags := 16, code := some k15c7 }
def k15c8 : Code := { maxStack := 2, maxLocals := 2, code := jdk_68_method_71_code, exceptionTable := #[], attributes := #[] }
def k15m8 : Method := { name := "inflateIfNeededFor", desc := "(Ljava/lang/String;)V", sig := { parameters := [(.object "java/lang/String")], returnType := none }, accessFlags := 2, code := some k15c8 }
def k15c9 : Code := { maxStack := 4, maxLocals := 3, code := jdk_68_method_73_code, exceptionTable := #[], attributes := #[] }
def k15m9 : Method := { name := "putStringAt", desc := "(ILjava/lang/String;)V", sig := { parameters := [.int, (.object "java/lang/String")], returnType := none }, accessFlags := 2, code := some k15c9 }
/-- java/lang/AbstractStringBuilder -/
def k15 : Class := { plain "java/lang/AbstractStringBuilder" (some 0) with
  accessFlags := 1056
  interfaces := #[14, 4]
  cf := some (fileOf pool15 10 #[] #[{ accessFlags := 0, nameIndex := 7, descriptorIndex := 8, attributes := #[] }, { accessFlags := 0, nameIndex := 7, descriptorIndex := 103, attributes := #[] }, { accessFlags := 1, nameIndex := 34, descriptorIndex := 35, attributes := #[] }, { accessFlags := 2, nameIndex := 102, descriptorIndex := 103, attributes := #[] }, { accessFlags := 2, nameIndex := 106, descriptorIndex := 107, attributes := #[] }, { accessFlags := 1, nameIndex := 45, descriptorIndex := 46, attributes := #[] }, { accessFlags := 16, nameIndex := 552, descriptorIndex := 403, attributes := #[] }, { accessFlags := 16, nameIndex := 85, descriptorIndex := 86, attributes := #[] }, { accessFlags := 2, nameIndex := 217, descriptorIndex := 69, attributes := #[] }, { accessFlags := 2, nameIndex := 210, descriptorIndex := 211, attributes := #[] }] 1056 4 #[444, 48] #[{ accessFlags := 0, nameIndex := 17, descriptorIndex := 14, attributes := #[] }, { accessFlags := 0, nameIndex := 24, descriptorIndex := 25, attributes := #[] }, { accessFlags := 0, nameIndex := 75, descriptorIndex := 21, attributes := #[] }, { accessFlags := 0, nameIndex := 81, descriptorIndex := 82, attributes := #[] }, { accessFlags := 26, nameIndex := 13, descriptorIndex := 14, attributes := #[] }])
  fields := #[{ name := "value", type := (.array .byte), accessFlags := 0, slot := 0, constantValue := 0 }, { name := "coder", type := .byte, accessFlags := 0, slot := 1, constantValue := 0 }, { name := "maybeLatin1", type := .boolean, accessFlags := 0, slot := 2, constantValue := 0 }, { name := "count", type := .int, accessFlags := 0, slot := 3, constantValue := 0 }, { name := "EMPTYVALUE", type := (.array .byte), accessFlags := 26, slot := 0, constantValue := 0 }]
  methods := #[k15m0, k15m1, k15m2, k15m3, k15m4, k15m5, k15m6, k15m7, k15m8, k15m9]
  instanceTypes := #[(.array .byte), .byte, .boolean, .int]
  staticTypes := #[(.array .byte)]
  resolved := Array.replicate 609 none
  statics := none }

def pool16 : Array CpInfo := pool [(1, .methodref 2 3), (0, .class_ 4), (0, .nameAndType 5 6), (0, u "java/lang/AbstractStringBuilder"), (0, u "<init>"), (0, u "(I)V"), (11, .class_ 20), (1, u "java/lang/String"), (3, .class_ 26), (1, u "java/lang/StringBuilder"), (0, u "append"), (0, u "(Ljava/lang/String;)Ljava/lang/StringBuilder;"), (0, .methodref 2 30), (0, .nameAndType 27 31), (0, u "(Ljava/lang/String;)Ljava/lang/AbstractStringBuilder;"), (105, .methodref 18 138), (0, .nameAndType 5 139), (0, u "(Ljava/lang/StringBuilder;)V"), (5, u "()V"), (10, u "()I"), (186, .methodref 2 344), (0, .nameAndType 345 156), (0, u "length"), (3, .class_ 350), (0, u "java/lang/Appendable"), (0, .class_ 352), (0, u "java/io/Serializable"), (0, .class_ 354), (0, u "java/lang/Comparable"), (0, .class_ 356), (0, u "java/lang/CharSequence"), (0, u "serialVersionUID"), (0, u "J"), (40, u "toString"), (0, u "()Ljava/lang/String;")] 21

def k16c0 : Code := { maxStack := 2, maxLocals := 1, code := jdk_67_method_1_code, exceptionTable := #[], attributes := #[] }
def k16m0 : Method := { name := "<init>", desc := "()V", sig := { parameters := [], returnType := none }, accessFlags := 1, code := some k16c0 }
def k16c1 : Code := { maxStack := 2, maxLocals := 2, code := jdk_67_method_7_code, exceptionTable := #[], attributes := #[] }
def k16m1 : Method := { name := "append", desc := "(Ljava/lang/String;)Ljava/lang/StringBuilder;", sig := { parameters := [(.object "java/lang/String")], returnType := some (.object "java/lang/StringBuilder") }, accessFlags := 1, code := some k16c1 }
def k16c2 : Code := { maxStack := 3, maxLocals := 1, code := jdk_67_method_42_code, exceptionTable := #[], attributes := #[] }
def k16m2 : Method := { name := "toString", desc := "()Ljava/lang/String;", sig := { parameters := [], returnType := some (.object "java/lang/String") }, accessFlags := 1, code := some k16c2 }
def k16c3 : Code := { maxStack := 1, maxLocals := 1, code := jdk_67_method_93_code, exceptionTable := #[], attributes := #[] }
def k16m3 : Method := { name := "length", desc := "()I", sig := { parameters := [], returnType := some .int }, accessFlags := 4161, code := some k16c3 }
/-- java/lang/StringBuilder -/
def k16 : Class := { plain "java/lang/StringBuilder" (some 15) with
  accessFlags := 49
  interfaces := #[14, 2, 3, 4]
  cf := some (fileOf pool16 24 #[] #[{ accessFlags := 1, nameIndex := 5, descriptorIndex := 145, attributes := #[] }, { accessFlags := 1, nameIndex := 27, descriptorIndex := 28, attributes := #[] }, { accessFlags := 1, nameIndex := 399, descriptorIndex := 400, attributes := #[] }, { accessFlags := 4161, nameIndex := 345, descriptorIndex := 156, attributes := #[] }] 49 2 #[349, 351, 353, 355] #[{ accessFlags := 24, nameIndex := 357, descriptorIndex := 358, attributes := #[] }])
  fields := #[{ name := "serialVersionUID", type := .long, accessFlags := 24, slot := 0, constantValue := 0 }]
  methods := #[k16m0, k16m1, k16m2, k16m3]
  instanceTypes := #[(.array .byte), .byte, .boolean, .int]
  staticTypes := #[.long]
  resolved := Array.replicate 422 none
  statics := none }

def pool17 : Array CpInfo := pool [(2, .class_ 4), (1, u "java/lang/Object"), (0, u "<init>"), (0, u "()V"), (1, .class_ 10), (1, u "java/lang/System"), (0, u "allowSecurityManager"), (0, u "I"), (16, u "cons"), (0, u "Ljava/io/Console;"), (77, .class_ 110), (1, u "java/lang/System$CallersHolder"), (43, u "initialErrStream"), (0, u "Ljava/io/PrintStream;"), (19, u "security"), (0, u "Ljava/lang/SecurityManager;"), (31, .class_ 209), (0, u "java/lang/System$1"), (7, u "props"), (0, u "Ljava/util/Properties;"), (2, u "lineSeparator"), (0, u "Ljava/lang/String;"), (96, .class_ 321), (1, u "java/lang/System$LoggerFinder"), (5, .class_ 328), (0, u "java/lang/System$Logger"), (67, u "err"), (2, u "out"), (91, u "notSupportedJnuEncoding"), (15, u "in"), (17, u "initialIn"), (0, u "Ljava/io/InputStream;"), (35, u "bootLayer"), (0, u "Ljava/lang/ModuleLayer;"), (99, .class_ 664), (0, u "java/lang/System$2"), (9, u "NEVER"), (2, u "MAYBE"), (49, u "arraycopy"), (0, u "(Ljava/lang/Object;ILjava/lang/Object;II)V"), (72, .class_ 802), (0, u "java/lang/System$Logger$Level")] 31

def k17m0 : Method := { name := "<init>", desc := "()V", sig := { parameters := [], returnType := none }, accessFlags := 2, code := none }
def k17m1 : Method := { name := "arraycopy", desc := "(Ljava/lang/Object;ILjava/lang/Object;II)V", sig := { parameters := [(.object "java/lang/Object"), .int, (.object "java/lang/Object"), .int, .int], returnType := none }, accessFlags := 265, code := none }
/-- java/lang/System -/
def k17 : Class := { plain "java/lang/System" (some 0) with
  accessFlags := 49
  interfaces := #[]
  cf := some (fileOf pool17 8 #[.nestMembers #[319, 327, 801, 108, 663, 208]] #[{ accessFlags := 2, nameIndex := 5, descriptorIndex := 6, attributes := #[] }, { accessFlags := 265, nameIndex := 727, descriptorIndex := 728, attributes := #[] }] 49 2 #[] #[{ accessFlags := 25, nameIndex := 507, descriptorIndex := 526, attributes := #[] }, { accessFlags := 25, nameIndex := 399, descriptorIndex := 155, attributes := #[] }, { accessFlags := 25, nameIndex := 396, descriptorIndex := 155, attributes := #[] }, { accessFlags := 10, nameIndex := 525, descriptorIndex := 526, attributes := #[] }, { accessFlags := 26, nameIndex := 674, descriptorIndex := 12, attributes := #[] }, { accessFlags := 26, nameIndex := 677, descriptorIndex := 12, attributes := #[] }, { accessFlags := 10, nameIndex := 11, descriptorIndex := 12, attributes := #[] }, { accessFlags := 74, nameIndex := 175, descriptorIndex := 176, attributes := #[] }, { accessFlags := 10, nameIndex := 491, descriptorIndex := 222, attributes := #[] }, { accessFlags := 74, nameIndex := 29, descriptorIndex := 30, attributes := #[] }, { accessFlags := 74, nameIndex := 154, descriptorIndex := 155, attributes := #[] }, { accessFlags := 10, nameIndex := 217, descriptorIndex := 218, attributes := #[] }, { accessFlags := 10, nameIndex := 221, descriptorIndex := 222, attributes := #[] }, { accessFlags := 8, nameIndex := 562, descriptorIndex := 563, attributes := #[] }])
  fields := #[{ name := "in", type := (.object "java/io/InputStream"), accessFlags := 25, slot := 0, constantValue := 0 }, { name := "out", type := (.object "java/io/PrintStream"), accessFlags := 25, slot := 1, constantValue := 0 }, { name := "err", type := (.object "java/io/PrintStream"), accessFlags := 25, slot := 2, constantValue := 0 }, { name := "initialIn", type := (.object "java/io/InputStream"), accessFlags := 10, slot := 3, constantValue := 0 }, { name := "NEVER", type := .int, accessFlags := 26, slot := 4, constantValue := 0 }, { name := "MAYBE", type := .int, accessFlags := 26, slot := 5, constantValue := 0 }, { name := "allowSecurityManager", type := .int, accessFlags := 10, slot := 6, constantValue := 0 }, { name := "security", type := (.object "java/lang/SecurityManager"), accessFlags := 74, slot := 7, constantValue := 0 }, { name := "notSupportedJnuEncoding", type := (.object "java/lang/String"), accessFlags := 10, slot := 8, constantValue := 0 }, { name := "cons", type := (.object "java/io/Console"), accessFlags := 74, slot := 9, constantValue := 0 }, { name := "initialErrStream", type := (.object "java/io/PrintStream"), accessFlags := 74, slot := 10, constantValue := 0 }, { name := "props", type := (.object "java/util/Properties"), accessFlags := 10, slot := 11, constantValue := 0 }, { name := "lineSeparator", type := (.object "java/lang/String"), accessFlags := 10, slot := 12, constantValue := 0 }, { name := "bootLayer", type := (.object "java/lang/ModuleLayer"), accessFlags := 8, slot := 13, constantValue := 0 }]
  methods := #[k17m0, k17m1]
  instanceTypes := #[]
  staticTypes := #[(.object "java/io/InputStream"), (.object "java/io/PrintStream"), (.object "java/io/PrintStream"), (.object "java/io/InputStream"), .int, .int, .int, (.object "java/lang/SecurityManager"), (.object "java/lang/String"), (.object "java/io/Console"), (.object "java/io/PrintStream"), (.object "java/util/Properties"), (.object "java/lang/String"), (.object "java/lang/ModuleLayer")]
  resolved := Array.replicate 834 none
  statics := none }

def pool18 : Array CpInfo := pool [(9, u "<init>"), (6, .class_ 18), (1, u "java/lang/Object"), (0, u "()V"), (1, .class_ 23), (1, u "jdk/internal/util/ArraysSupport"), (0, u "LOG2_ARRAY_LONG_INDEX_SCALE"), (0, u "I"), (2, u "U"), (0, u "Ljdk/internal/misc/Unsafe;"), (8, u "BIG_ENDIAN"), (0, u "Z"), (8, u "LOG2_BYTE_BIT_SIZE"), (4, u "LOG2_ARRAY_INT_INDEX_SCALE"), (54, u "JLA"), (0, u "Ljdk/internal/access/JavaLangAccess;"), (11, u "LOG2_ARRAY_BOOLEAN_INDEX_SCALE"), (9, u "LOG2_ARRAY_BYTE_INDEX_SCALE"), (5, u "LOG2_ARRAY_CHAR_INDEX_SCALE"), (5, u "LOG2_ARRAY_SHORT_INDEX_SCALE"), (18, u "LOG2_ARRAY_FLOAT_INDEX_SCALE"), (24, u "LOG2_ARRAY_DOUBLE_INDEX_SCALE"), (6, .methodref 195 196), (0, .class_ 197), (0, .nameAndType 198 199), (0, u "java/lang/Math"), (0, u "max"), (0, u "(II)I"), (0, .integer 2147483639), (76, u "T_BOOLEAN"), (2, u "T_CHAR"), (1, u "T_FLOAT"), (1, u "T_DOUBLE"), (1, u "T_BYTE"), (1, u "T_SHORT"), (1, u "T_INT"), (1, u "T_LONG"), (1, u "SOFT_MAX_ARRAY_LENGTH"), (56, u "newLength"), (0, u "(III)I")] 25

def k18m0 : Method := { name := "<init>", desc := "()V", sig := { parameters := [], returnType := none }, accessFlags := 2, code := none }
def k18c1 : Code := { maxStack := 3, maxLocals := 4, code := jdk_48_method_27_code, exceptionTable := #[], attributes := #[] }
def k18m1 : Method := { name := "newLength", desc := "(III)I", sig := { parameters := [.int, .int, .int], returnType := some .int }, accessFlags := 9, code := some k18c1 }
/-- jdk/internal/util/ArraysSupport -/
def k18 : Class := { plain "jdk/internal/util/ArraysSupport" (some 0) with
  accessFlags := 33
  interfaces := #[]
  cf := some (fileOf pool18 21 #[] #[{ accessFlags := 2, nameIndex := 9, descriptorIndex := 19, attributes := #[] }, { accessFlags := 9, nameIndex := 351, descriptorIndex := 352, attributes := #[] }] 33 16 #[] #[{ accessFlags := 24, nameIndex := 28, descriptorIndex := 29, attributes := #[] }, { accessFlags := 26, nameIndex := 38, descriptorIndex := 39, attributes := #[] }, { accessFlags := 25, nameIndex := 121, descriptorIndex := 25, attributes := #[] }, { accessFlags := 25, nameIndex := 131, descriptorIndex := 25, attributes := #[] }, { accessFlags := 25, nameIndex := 137, descriptorIndex := 25, attributes := #[] }, { accessFlags := 25, nameIndex := 143, descriptorIndex := 25, attributes := #[] }, { accessFlags := 25, nameIndex := 53, descriptorIndex := 25, attributes := #[] }, { accessFlags := 25, nameIndex := 24, descriptorIndex := 25, attributes := #[] }, { accessFlags := 25, nameIndex := 162, descriptorIndex := 25, attributes := #[] }, { accessFlags := 25, nameIndex := 187, descriptorIndex := 25, attributes := #[] }, { accessFlags := 26, nameIndex := 48, descriptorIndex := 25, attributes := #[] }, { accessFlags := 25, nameIndex := 277, descriptorIndex := 25, attributes := #[] }, { accessFlags := 25, nameIndex := 280, descriptorIndex := 25, attributes := #[] }, { accessFlags := 25, nameIndex := 282, descriptorIndex := 25, attributes := #[] }, { accessFlags := 25, nameIndex := 284, descriptorIndex := 25, attributes := #[] }, { accessFlags := 25, nameIndex := 286, descriptorIndex := 25, attributes := #[] }, { accessFlags := 25, nameIndex := 288, descriptorIndex := 25, attributes := #[] }, { accessFlags := 25, nameIndex := 290, descriptorIndex := 25, attributes := #[] }, { accessFlags := 25, nameIndex := 292, descriptorIndex := 25, attributes := #[] }, { accessFlags := 26, nameIndex := 108, descriptorIndex := 109, attributes := #[] }, { accessFlags := 25, nameIndex := 294, descriptorIndex := 25, attributes := #[] }])
  fields := #[{ name := "U", type := (.object "jdk/internal/misc/Unsafe"), accessFlags := 24, slot := 0, constantValue := 0 }, { name := "BIG_ENDIAN", type := .boolean, accessFlags := 26, slot := 1, constantValue := 0 }, { name := "LOG2_ARRAY_BOOLEAN_INDEX_SCALE", type := .int, accessFlags := 25, slot := 2, constantValue := 0 }, { name := "LOG2_ARRAY_BYTE_INDEX_SCALE", type := .int, accessFlags := 25, slot := 3, constantValue := 0 }, { name := "LOG2_ARRAY_CHAR_INDEX_SCALE", type := .int, accessFlags := 25, slot := 4, constantValue := 0 }, { name := "LOG2_ARRAY_SHORT_INDEX_SCALE", type := .int, accessFlags := 25, slot := 5, constantValue := 0 }, { name := "LOG2_ARRAY_INT_INDEX_SCALE", type := .int, accessFlags := 25, slot := 6, constantValue := 0 }, { name := "LOG2_ARRAY_LONG_INDEX_SCALE", type := .int, accessFlags := 25, slot := 7, constantValue := 0 }, { name := "LOG2_ARRAY_FLOAT_INDEX_SCALE", type := .int, accessFlags := 25, slot := 8, constantValue := 0 }, { name := "LOG2_ARRAY_DOUBLE_INDEX_SCALE", type := .int, accessFlags := 25, slot := 9, constantValue := 0 }, { name := "LOG2_BYTE_BIT_SIZE", type := .int, accessFlags := 26, slot := 10, constantValue := 0 }, { name := "T_BOOLEAN", type := .int, accessFlags := 25, slot := 11, constantValue := 0 }, { name := "T_CHAR", type := .int, accessFlags := 25, slot := 12, constantValue := 0 }, { name := "T_FLOAT", type := .int, accessFlags := 25, slot := 13, constantValue := 0 }, { name := "T_DOUBLE", type := .int, accessFlags := 25, slot := 14, constantValue := 0 }, { name := "T_BYTE", type := .int, accessFlags := 25, slot := 15, constantValue := 0 }, { name := "T_SHORT", type := .int, accessFlags := 25, slot := 16, constantValue := 0 }, { name := "T_INT", type := .int, accessFlags := 25, slot := 17, constantValue := 0 }, { name := "T_LONG", type := .int, accessFlags := 25, slot := 18, constantValue := 0 }, { name := "JLA", type := (.object "jdk/internal/access/JavaLangAccess"), accessFlags := 26, slot := 19, constantValue := 0 }, { name := "SOFT_MAX_ARRAY_LENGTH", type := .int, accessFlags := 25, slot := 20, constantValue := 0 }]
  methods := #[k18m0, k18m1]
  instanceTypes := #[]
  staticTypes := #[(.object "jdk/internal/misc/Unsafe"), .boolean, .int, .int, .int, .int, .int, .int, .int, .int, .int, .int, .int, .int, .int, .int, .int, .int, .int, (.object "jdk/internal/access/JavaLangAccess"), .int]
  resolved := Array.replicate 378 none
  statics := none }

def pool19 : Array CpInfo := pool [(1, .class_ 2), (0, u "java/lang/Math"), (1, .class_ 6), (1, u "java/lang/Object"), (0, u "<init>"), (0, u "()V"), (89, .class_ 100), (1, u "java/lang/Math$RandomNumberGeneratorHolder"), (71, u "negativeZeroFloatBits"), (0, u "J"), (2, u "negativeZeroDoubleBits"), (21, u "max"), (2, u "min"), (43, u "$assertionsDisabled"), (0, u "Z"), (88, u "(II)I"), (2, u "twoToTheDoubleScaleDown"), (0, u "D"), (4, u "twoToTheDoubleScaleUp"), (9, u "E"), (3, u "PI"), (2, u "TAU"), (2, u "DEGREES_TO_RADIANS"), (0, u "RADIANS_TO_DEGREES")] 94

def k19m0 : Method := { name := "<init>", desc := "()V", sig := { parameters := [], returnType := none }, accessFlags := 2, code := none }
def k19c1 : Code := { maxStack := 2, maxLocals := 2, code := jdk_29_method_65_code, exceptionTable := #[], attributes := #[] }
def k19m1 : Method := { name := "max", desc := "(II)I", sig := { parameters := [.int, .int], returnType := some .int }, accessFlags := 9, code := some k19c1 }
def k19c2 : Code := { maxStack := 2, maxLocals := 2, code := jdk_29_method_69_code, exceptionTable := #[], attributes := #[] }
def k19m2 : Method := { name := "min", desc := "(II)I", sig := { parameters := [.int, .int], returnType := some .int }, accessFlags := 9, code := some k19c2 }
/-- java/lang/Math -/
def k19 : Class := { plain "java/lang/Math" (some 0) with
  accessFlags := 49
  interfaces := #[]
  cf := some (fileOf pool19 1 #[.nestMembers #[98]] #[{ accessFlags := 2, nameIndex := 7, descriptorIndex := 8, attributes := #[] }, { accessFlags := 9, nameIndex := 198, descriptorIndex := 335, attributes := #[] }, { accessFlags := 9, nameIndex := 201, descriptorIndex := 335, attributes := #[] }] 49 4 #[] #[{ accessFlags := 25, nameIndex := 354, descriptorIndex := 339, attributes := #[] }, { accessFlags := 25, nameIndex := 358, descriptorIndex := 339, attributes := #[] }, { accessFlags := 25, nameIndex := 361, descriptorIndex := 339, attributes := #[] }, { accessFlags := 26, nameIndex := 364, descriptorIndex := 339, attributes := #[] }, { accessFlags := 26, nameIndex := 365, descriptorIndex := 339, attributes := #[] }, { accessFlags := 26, nameIndex := 172, descriptorIndex := 173, attributes := #[] }, { accessFlags := 26, nameIndex := 176, descriptorIndex := 173, attributes := #[] }, { accessFlags := 8, nameIndex := 344, descriptorIndex := 339, attributes := #[] }, { accessFlags := 8, nameIndex := 338, descriptorIndex := 339, attributes := #[] }, { accessFlags := 4120, nameIndex := 245, descriptorIndex := 246, attributes := #[] }])
  fields := #[{ name := "E", type := .double, accessFlags := 25, slot := 0, constantValue := 0 }, { name := "PI", type := .double, accessFlags := 25, slot := 1, constantValue := 0 }, { name := "TAU", type := .double, accessFlags := 25, slot := 2, constantValue := 0 }, { name := "DEGREES_TO_RADIANS", type := .double, accessFlags := 26, slot := 3, constantValue := 0 }, { name := "RADIANS_TO_DEGREES", type := .double, accessFlags := 26, slot := 4, constantValue := 0 }, { name := "negativeZeroFloatBits", type := .long, accessFlags := 26, slot := 5, constantValue := 0 }, { name := "negativeZeroDoubleBits", type := .long, accessFlags := 26, slot := 6, constantValue := 0 }, { name := "twoToTheDoubleScaleUp", type := .double, accessFlags := 8, slot := 7, constantValue := 0 }, { name := "twoToTheDoubleScaleDown", type := .double, accessFlags := 8, slot := 8, constantValue := 0 }, { name := "$assertionsDisabled", type := .boolean, accessFlags := 4120, slot := 9, constantValue := 0 }]
  methods := #[k19m0, k19m1, k19m2]
  instanceTypes := #[]
  staticTypes := #[.double, .double, .double, .double, .double, .long, .long, .double, .double, .boolean]
  resolved := Array.replicate 460 none
  statics := none }

def pool20 : Array CpInfo := pool [(2, .class_ 4), (1, u "java/lang/Object"), (0, u "<init>"), (0, u "()V"), (7, .class_ 16), (1, u "java/util/Arrays"), (57, .class_ 76), (1, u "java/util/Arrays$NaturalOrder"), (36, .class_ 115), (1, u "java/util/Arrays$LegacyMergeSort"), (1, u "Z"), (21, u "copyOfRange"), (10, .methodref 151 152), (0, .class_ 153), (0, .nameAndType 154 155), (0, u "java/lang/System"), (0, u "arraycopy"), (0, u "(Ljava/lang/Object;ILjava/lang/Object;II)V"), (146, u "copyOf"), (1, .methodref 305 306), (0, .class_ 307), (0, .nameAndType 308 309), (0, u "java/lang/Math"), (0, u "min"), (0, u "(II)I"), (29, .methodref 14 340), (0, .nameAndType 341 342), (0, u "copyOfRangeByte"), (0, u "([BII)[B"), (0, .methodref 14 344), (0, .nameAndType 345 346), (0, u "checkLength"), (0, u "(II)V"), (28, .class_ 376), (0, u "java/util/Arrays$ArrayList"), (68, u "$assertionsDisabled"), (269, u "MIN_ARRAY_SORT_GRAN"), (0, u "I"), (2, u "INSERTIONSORT_THRESHOLD"), (149, u "([BI)[B"), (105, .class_ 976), (0, u "java/util/Arrays$ArrayItr")] 52

def k20m0 : Method := { name := "<init>", desc := "()V", sig := { parameters := [], returnType := none }, accessFlags := 2, code := none }
def k20c1 : Code := { maxStack := 6, maxLocals := 3, code := jdk_65_method_121_code, exceptionTable := #[], attributes := #[] }
def k20m1 : Method := { name := "copyOf", desc := "([BI)[B", sig := { parameters := [(.array .byte), .int], returnType := some (.array .byte) }, accessFlags := 9, code := some k20c1 }
def k20c2 : Code := { maxStack := 4, maxLocals := 2, code := jdk_65_method_131_code, exceptionTable := #[], attributes := #[] }
def k20m2 : Method := { name := "checkLength", desc := "(II)V", sig := { parameters := [.int, .int], returnType := none }, accessFlags := 10, code := some k20c2 }
def k20c3 : Code := { maxStack := 3, maxLocals := 3, code := jdk_65_method_132_code, exceptionTable := #[], attributes := #[] }
def k20m3 : Method := { name := "copyOfRange", desc := "([BII)[B", sig := { parameters := [(.array .byte), .int, .int], returnType := some (.array .byte) }, accessFlags := 9, code := some k20c3 }
def k20c4 : Code := { maxStack := 6, maxLocals := 5, code := jdk_65_method_133_code, exceptionTable := #[], attributes := #[] }
def k20m4 : Method := { name := "copyOfRangeByte", desc := "([BII)[B", sig := { parameters := [(.array .byte), .int, .int], returnType := some (.array .byte) }, accessFlags := 10, code := some k20c4 }
/-- java/util/Arrays -/
def k20 : Class := { plain "java/util/Arrays" (some 0) with
  accessFlags := 49
  interfaces := #[]
  cf := some (fileOf pool20 14 #[.nestMembers #[975, 375, 113, 74]] #[{ accessFlags := 2, nameIndex := 5, descriptorIndex := 6, attributes := #[] }, { accessFlags := 9, nameIndex := 302, descriptorIndex := 869, attributes := #[] }, { accessFlags := 10, nameIndex := 345, descriptorIndex := 346, attributes := #[] }, { accessFlags := 9, nameIndex := 139, descriptorIndex := 342, attributes := #[] }, { accessFlags := 10, nameIndex := 341, descriptorIndex := 342, attributes := #[] }] 49 2 #[] #[{ accessFlags := 26, nameIndex := 715, descriptorIndex := 716, attributes := #[] }, { accessFlags := 26, nameIndex := 719, descriptorIndex := 716, attributes := #[] }, { accessFlags := 4120, nameIndex := 445, descriptorIndex := 117, attributes := #[] }])
  fields := #[{ name := "MIN_ARRAY_SORT_GRAN", type := .int, accessFlags := 26, slot := 0, constantValue := 0 }, { name := "INSERTIONSORT_THRESHOLD", type := .int, accessFlags := 26, slot := 1, constantValue := 0 }, { name := "$assertionsDisabled", type := .boolean, accessFlags := 4120, slot := 2, constantValue := 0 }]
  methods := #[k20m0, k20m1, k20m2, k20m3, k20m4]
  instanceTypes := #[]
  staticTypes := #[.int, .int, .boolean]
  resolved := Array.replicate 1029 none
  statics := none }

def pool21 : Array CpInfo := pool [(4, .class_ 6), (1, u "java/lang/Object"), (0, u "<init>"), (0, u "()V"), (5, .class_ 16), (1, u "java/lang/StringLatin1"), (104, u "$assertionsDisabled"), (0, u "Z"), (98, .class_ 223), (1, u "java/lang/StringLatin1$LinesSpliterator"), (57, u "equals"), (0, u "([B[B)Z"), (107, .class_ 391), (0, u "java/lang/StringLatin1$CharsSpliterator")] 3

def k21m0 : Method := { name := "<init>", desc := "()V", sig := { parameters := [], returnType := none }, accessFlags := 0, code := none }
def k21c1 : Code := { maxStack := 3, maxLocals := 3, code := jdk_43_method_13_code, exceptionTable := #[], attributes := #[] }
def k21m1 : Method := { name := "equals", desc := "([B[B)Z", sig := { parameters := [(.array .byte), (.array .byte)], returnType := some .boolean }, accessFlags := 9, code := some k21c1 }
/-- java/lang/StringLatin1 -/
def k21 : Class := { plain "java/lang/StringLatin1" (some 0) with
  accessFlags := 48
  interfaces := #[]
  cf := some (fileOf pool21 14 #[.nestMembers #[390, 221]] #[{ accessFlags := 0, nameIndex := 7, descriptorIndex := 8, attributes := #[] }, { accessFlags := 9, nameIndex := 281, descriptorIndex := 282, attributes := #[] }] 48 4 #[] #[{ accessFlags := 4120, nameIndex := 121, descriptorIndex := 122, attributes := #[] }])
  fields := #[{ name := "$assertionsDisabled", type := .boolean, accessFlags := 4120, slot := 0, constantValue := 0 }]
  methods := #[k21m0, k21m1]
  instanceTypes := #[]
  staticTypes := #[.boolean]
  resolved := Array.replicate 395 none
  statics := none }

def pool22 : Array CpInfo := pool [(2, .class_ 4), (1, u "java/lang/Object"), (0, u "<init>"), (0, u "()V"), (17, .class_ 26), (1, u "jdk/internal/util/Preconditions"), (28, .class_ 56), (0, u "jdk/internal/util/Preconditions$4"), (57, .class_ 115), (0, u "jdk/internal/util/Preconditions$1"), (7, u "SIOOBE_FORMATTER"), (0, u "Ljava/util/function/BiFunction;"), (0, .class_ 126), (0, u "jdk/internal/util/Preconditions$2"), (3, u "AIOOBE_FORMATTER"), (0, .class_ 132), (0, u "jdk/internal/util/Preconditions$3"), (3, u "IOOBE_FORMATTER")] 57

def k22m0 : Method := { name := "<init>", desc := "()V", sig := { parameters := [], returnType := none }, accessFlags := 1, code := none }
/-- jdk/internal/util/Preconditions -/
def k22 : Class := { plain "jdk/internal/util/Preconditions" (some 0) with
  accessFlags := 33
  interfaces := #[]
  cf := some (fileOf pool22 24 #[.nestMembers #[55, 131, 125, 114]] #[{ accessFlags := 1, nameIndex := 5, descriptorIndex := 6, attributes := #[] }] 33 2 #[] #[{ accessFlags := 25, nameIndex := 123, descriptorIndex := 124, attributes := #[] }, { accessFlags := 25, nameIndex := 130, descriptorIndex := 124, attributes := #[] }, { accessFlags := 25, nameIndex := 136, descriptorIndex := 124, attributes := #[] }])
  fields := #[{ name := "SIOOBE_FORMATTER", type := (.object "java/util/function/BiFunction"), accessFlags := 25, slot := 0, constantValue := 0 }, { name := "AIOOBE_FORMATTER", type := (.object "java/util/function/BiFunction"), accessFlags := 25, slot := 1, constantValue := 0 }, { name := "IOOBE_FORMATTER", type := (.object "java/util/function/BiFunction"), accessFlags := 25, slot := 2, constantValue := 0 }]
  methods := #[k22m0]
  instanceTypes := #[]
  staticTypes := #[(.object "java/util/function/BiFunction"), (.object "java/util/function/BiFunction"), (.object "java/util/function/BiFunction")]
  resolved := Array.replicate 194 none
  statics := some 2 }

def pool23 : Array CpInfo := pool [(2, .class_ 4), (1, u "java/lang/Object"), (0, u "<init>"), (0, u "()V"), (12, .class_ 20), (0, u "java/util/Collections"), (63, u "r"), (0, u "Ljava/util/Random;"), (80, .class_ 167), (0, u "java/util/Collections$UnmodifiableCollection"), (6, .class_ 175), (0, u "java/util/Collections$UnmodifiableSequencedCollection"), (6, .class_ 183), (0, u "java/util/Collections$UnmodifiableSet"), (6, .class_ 191), (0, u "java/util/Collections$UnmodifiableSequencedSet"), (6, .class_ 199), (0, u "java/util/Collections$UnmodifiableSortedSet"), (6, .class_ 207), (0, u "java/util/Collections$UnmodifiableNavigableSet"), (4, .class_ 213), (0, u "java/util/Collections$UnmodifiableList"), (1, .class_ 216), (0, u "java/util/Collections$UnmodifiableRandomAccessList"), (6, .class_ 224), (0, u "java/util/Collections$UnmodifiableMap"), (6, .class_ 232), (0, u "java/util/Collections$UnmodifiableSequencedMap"), (4, .class_ 238), (0, u "java/util/Collections$UnmodifiableSortedMap"), (6, .class_ 246), (0, u "java/util/Collections$UnmodifiableNavigableMap"), (3, .class_ 251), (0, u "java/util/Collections$SynchronizedCollection"), (4, .class_ 257), (0, u "java/util/Collections$SynchronizedSet"), (4, .class_ 263), (0, u "java/util/Collections$SynchronizedSortedSet"), (1, .class_ 266), (0, u "java/util/Collections$SynchronizedNavigableSet"), (1, .class_ 269), (0, u "java/util/Collections$SynchronizedRandomAccessList"), (1, .class_ 272), (0, u "java/util/Collections$SynchronizedList"), (5, .class_ 279), (0, u "java/util/Collections$SynchronizedMap"), (1, .class_ 282), (0, u "java/util/Collections$SynchronizedSortedMap"), (1, .class_ 285), (0, u "java/util/Collections$SynchronizedNavigableMap"), (1, .class_ 288), (0, u "java/util/Collections$CheckedCollection"), (11, .class_ 301), (0, u "java/util/Collections$CheckedQueue"), (3, .class_ 306), (0, u "java/util/Collections$CheckedSet"), (3, .class_ 311), (0, u "java/util/Collections$CheckedSortedSet"), (3, .class_ 316), (0, u "java/util/Collections$CheckedNavigableSet"), (3, .class_ 321), (0, u "java/util/Collections$CheckedRandomAccessList"), (3, .class_ 326), (0, u "java/util/Collections$CheckedList"), (1, .class_ 329), (0, u "java/util/Collections$CheckedMap"), (3, .class_ 334), (0, u "java/util/Collections$CheckedSortedMap"), (3, .class_ 339), (0, u "java/util/Collections$CheckedNavigableMap"), (4, .class_ 346), (1, u "java/util/Collections$EmptyIterator"), (3, .class_ 352), (1, u "java/util/Collections$EmptyListIterator"), (2, .class_ 357), (1, u "java/util/Collections$EmptyEnumeration"), (4, u "EMPTY_SET"), (0, u "Ljava/util/Set;"), (6, u "EMPTY_LIST"), (0, u "Ljava/util/List;"), (2, u "EMPTY_MAP"), (0, u "Ljava/util/Map;"), (4, .class_ 381), (0, u "java/util/Collections$SingletonSet"), (2, .class_ 385), (0, u "java/util/Collections$1"), (1, .class_ 388), (0, u "java/util/Collections$2"), (1, .class_ 391), (0, u "java/util/Collections$SingletonList"), (1, .class_ 394), (0, u "java/util/Collections$SingletonMap"), (22, .class_ 418), (0, u "java/util/Collections$CopiesList"), (4, .class_ 425), (1, u "java/util/Collections$ReverseComparator"), (8, .class_ 435), (0, u "java/util/Collections$ReverseComparator2"), (6, .class_ 443), (0, u "java/util/Collections$3"), (25, .class_ 470), (0, u "java/util/Collections$SetFromMap"), (2, .class_ 474), (0, u "java/util/Collections$SequencedSetFromMap"), (3, .class_ 479), (0, u "java/util/Collections$AsLIFOQueue"), (11, .class_ 492), (0, u "java/util/Collections$EmptySet"), (1, .class_ 495), (0, u "java/util/Collections$EmptyList"), (1, .class_ 498), (0, u "java/util/Collections$EmptyMap"), (1, u "BINARYSEARCH_THRESHOLD"), (0, u "I"), (2, u "REVERSE_THRESHOLD"), (1, u "SHUFFLE_THRESHOLD"), (1, u "FILL_THRESHOLD"), (1, u "ROTATE_THRESHOLD"), (1, u "COPY_THRESHOLD"), (1, u "REPLACEALL_THRESHOLD"), (1, u "INDEXOFSUBLIST_THRESHOLD"), (333, .class_ 851), (0, u "java/util/Collections$CheckedMap$CheckedEntrySet"), (0, .class_ 853), (0, u "java/util/Collections$CheckedMap$CheckedEntrySet$CheckedEntry"), (0, .class_ 855), (0, u "java/util/Collections$CheckedMap$CheckedEntrySet$1"), (0, .class_ 857), (0, u "java/util/Collections$CheckedList$1"), (0, .class_ 859), (0, u "java/util/Collections$CheckedCollection$1"), (0, .class_ 861), (0, u "java/util/Collections$UnmodifiableNavigableMap$EmptyNavigableMap"), (0, .class_ 863), (0, u "java/util/Collections$UnmodifiableMap$UnmodifiableEntrySet"), (0, .class_ 865), (0, u "java/util/Collections$UnmodifiableMap$UnmodifiableEntrySet$UnmodifiableEntry"), (0, .class_ 867), (0, u "java/util/Collections$UnmodifiableMap$UnmodifiableEntrySet$UnmodifiableEntrySetSpliterator"), (0, .class_ 869), (0, u "java/util/Collections$UnmodifiableMap$UnmodifiableEntrySet$1"), (0, .class_ 871), (0, u "java/util/Collections$UnmodifiableList$1"), (0, .class_ 873), (0, u "java/util/Collections$UnmodifiableNavigableSet$EmptyNavigableSet"), (0, .class_ 875), (0, u "java/util/Collections$UnmodifiableCollection$1")] 57

def k23m0 : Method := { name := "<init>", desc := "()V", sig := { parameters := [], returnType := none }, accessFlags := 2, code := none }
/-- java/util/Collections -/
def k23 : Class := { plain "java/util/Collections" (some 0) with
  accessFlags := 33
  interfaces := #[]
  cf := some (fileOf pool23 19 #[.nestMembers #[478, 473, 469, 434, 423, 417, 393, 390, 380, 497, 494, 491, 355, 350, 344, 338, 333, 328, 850, 852, 854, 320, 325, 856, 315, 310, 305, 300, 287, 858, 284, 281, 278, 268, 271, 265, 262, 256, 250, 245, 860, 237, 231, 223, 862, 864, 866, 868, 215, 212, 870, 206, 872, 198, 190, 182, 174, 166, 874, 442, 387, 384]] #[{ accessFlags := 2, nameIndex := 5, descriptorIndex := 6, attributes := #[] }] 33 2 #[] #[{ accessFlags := 26, nameIndex := 500, descriptorIndex := 501, attributes := #[] }, { accessFlags := 26, nameIndex := 504, descriptorIndex := 501, attributes := #[] }, { accessFlags := 26, nameIndex := 506, descriptorIndex := 501, attributes := #[] }, { accessFlags := 26, nameIndex := 508, descriptorIndex := 501, attributes := #[] }, { accessFlags := 26, nameIndex := 510, descriptorIndex := 501, attributes := #[] }, { accessFlags := 26, nameIndex := 512, descriptorIndex := 501, attributes := #[] }, { accessFlags := 26, nameIndex := 514, descriptorIndex := 501, attributes := #[] }, { accessFlags := 26, nameIndex := 516, descriptorIndex := 501, attributes := #[] }, { accessFlags := 10, nameIndex := 84, descriptorIndex := 85, attributes := #[] }, { accessFlags := 25, nameIndex := 362, descriptorIndex := 363, attributes := #[] }, { accessFlags := 25, nameIndex := 370, descriptorIndex := 371, attributes := #[] }, { accessFlags := 25, nameIndex := 374, descriptorIndex := 375, attributes := #[] }])
  fields := #[{ name := "BINARYSEARCH_THRESHOLD", type := .int, accessFlags := 26, slot := 0, constantValue := 0 }, { name := "REVERSE_THRESHOLD", type := .int, accessFlags := 26, slot := 1, constantValue := 0 }, { name := "SHUFFLE_THRESHOLD", type := .int, accessFlags := 26, slot := 2, constantValue := 0 }, { name := "FILL_THRESHOLD", type := .int, accessFlags := 26, slot := 3, constantValue := 0 }, { name := "ROTATE_THRESHOLD", type := .int, accessFlags := 26, slot := 4, constantValue := 0 }, { name := "COPY_THRESHOLD", type := .int, accessFlags := 26, slot := 5, constantValue := 0 }, { name := "REPLACEALL_THRESHOLD", type := .int, accessFlags := 26, slot := 6, constantValue := 0 }, { name := "INDEXOFSUBLIST_THRESHOLD", type := .int, accessFlags := 26, slot := 7, constantValue := 0 }, { name := "r", type := (.object "java/util/Random"), accessFlags := 10, slot := 8, constantValue := 0 }, { name := "EMPTY_SET", type := (.object "java/util/Set"), accessFlags := 25, slot := 9, constantValue := 0 }, { name := "EMPTY_LIST", type := (.object "java/util/List"), accessFlags := 25, slot := 10, constantValue := 0 }, { name := "EMPTY_MAP", type := (.object "java/util/Map"), accessFlags := 25, slot := 11, constantValue := 0 }]
  methods := #[k23m0]
  instanceTypes := #[]
  staticTypes := #[.int, .int, .int, .int, .int, .int, .int, .int, (.object "java/util/Random"), (.object "java/util/Set"), (.object "java/util/List"), (.object "java/util/Map")]
  resolved := Array.replicate 933 none
  statics := some 3 }

def pool24 : Array CpInfo := pool [(8, .class_ 10), (1, u "java/lang/Iterable"), (24, .class_ 36), (0, u "java/lang/Object")] 25

/-- java/lang/Iterable -/
def k24 : Class := { plain "java/lang/Iterable" (some 0) with
  accessFlags := 1537
  interfaces := #[]
  cf := some (fileOf pool24 8 #[] #[] 1537 35 #[] #[])
  fields := #[]
  methods := #[]
  instanceTypes := #[]
  staticTypes := #[]
  resolved := Array.replicate 62 none
  statics := none }

def pool25 : Array CpInfo := pool [(10, .class_ 12), (1, u "java/util/Collection"), (47, .class_ 61), (0, u "java/lang/Object"), (0, .class_ 63), (0, u "java/lang/Iterable")] 51

/-- java/util/Collection -/
def k25 : Class := { plain "java/util/Collection" (some 0) with
  accessFlags := 1537
  interfaces := #[24]
  cf := some (fileOf pool25 10 #[] #[] 1537 60 #[62] #[])
  fields := #[]
  methods := #[]
  instanceTypes := #[]
  staticTypes := #[]
  resolved := Array.replicate 115 none
  statics := none }

def pool26 : Array CpInfo := pool [(2, .class_ 4), (1, u "java/lang/Object"), (0, u "<init>"), (0, u "()V"), (1, .class_ 10), (1, u "java/util/AbstractCollection"), (66, .class_ 78), (0, u "java/util/Collection")] 81

def k26m0 : Method := { name := "<init>", desc := "()V", sig := { parameters := [], returnType := none }, accessFlags := 4, code := none }
/-- java/util/AbstractCollection -/
def k26 : Class := { plain "java/util/AbstractCollection" (some 0) with
  accessFlags := 1057
  interfaces := #[25]
  cf := some (fileOf pool26 8 #[] #[{ accessFlags := 4, nameIndex := 5, descriptorIndex := 6, attributes := #[] }] 1057 2 #[77] #[])
  fields := #[]
  methods := #[k26m0]
  instanceTypes := #[]
  staticTypes := #[]
  resolved := Array.replicate 160 none
  statics := none }

def pool27 : Array CpInfo := pool [(8, .class_ 10), (1, u "java/util/SequencedCollection"), (15, .class_ 27), (0, u "java/lang/Object"), (0, .class_ 29), (0, u "java/util/Collection")] 27

/-- java/util/SequencedCollection -/
def k27 : Class := { plain "java/util/SequencedCollection" (some 0) with
  accessFlags := 1537
  interfaces := #[25]
  cf := some (fileOf pool27 8 #[] #[] 1537 26 #[28] #[])
  fields := #[]
  methods := #[]
  instanceTypes := #[]
  staticTypes := #[]
  resolved := Array.replicate 57 none
  statics := none }

def pool28 : Array CpInfo := pool [(8, .class_ 10), (1, u "java/util/List"), (92, .class_ 104), (0, u "java/lang/Object"), (15, .class_ 121), (0, u "java/util/SequencedCollection")] 129

/-- java/util/List -/
def k28 : Class := { plain "java/util/List" (some 0) with
  accessFlags := 1537
  interfaces := #[27]
  cf := some (fileOf pool28 8 #[] #[] 1537 103 #[120] #[])
  fields := #[]
  methods := #[]
  instanceTypes := #[]
  staticTypes := #[]
  resolved := Array.replicate 251 none
  statics := none }

def pool29 : Array CpInfo := pool [(2, .class_ 4), (1, u "java/util/AbstractCollection"), (0, u "<init>"), (0, u "()V"), (1, .class_ 10), (1, u "java/util/AbstractList"), (0, u "modCount"), (0, u "I"), (64, .class_ 78), (0, u "java/util/AbstractList$Itr"), (3, .class_ 83), (0, u "java/util/AbstractList$ListItr"), (9, .class_ 94), (0, u "java/util/AbstractList$RandomAccessSubList"), (3, .class_ 99), (0, u "java/util/AbstractList$SubList"), (33, .class_ 134), (0, u "java/util/List"), (73, .class_ 209), (0, u "java/util/AbstractList$SubList$1"), (0, .class_ 211), (0, u "java/util/AbstractList$RandomAccessSpliterator")] 6

def k29m0 : Method := { name := "<init>", desc := "()V", sig := { parameters := [], returnType := none }, accessFlags := 4, code := none }
/-- java/util/AbstractList -/
def k29 : Class := { plain "java/util/AbstractList" (some 26) with
  accessFlags := 1057
  interfaces := #[28]
  cf := some (fileOf pool29 8 #[.nestMembers #[93, 98, 208, 210, 82, 77]] #[{ accessFlags := 4, nameIndex := 5, descriptorIndex := 6, attributes := #[] }] 1057 2 #[133] #[{ accessFlags := 132, nameIndex := 11, descriptorIndex := 12, attributes := #[] }])
  fields := #[{ name := "modCount", type := .int, accessFlags := 132, slot := 0, constantValue := 0 }]
  methods := #[k29m0]
  instanceTypes := #[.int]
  staticTypes := #[]
  resolved := Array.replicate 218 none
  statics := none }

def pool30 : Array CpInfo := pool [(1, .class_ 2), (0, u "java/util/RandomAccess"), (0, .class_ 4), (0, u "java/lang/Object")] 2

/-- java/util/RandomAccess -/
def k30 : Class := { plain "java/util/RandomAccess" (some 0) with
  accessFlags := 1537
  interfaces := #[]
  cf := some (fileOf pool30 1 #[] #[] 1537 3 #[] #[])
  fields := #[]
  methods := #[]
  instanceTypes := #[]
  staticTypes := #[]
  resolved := Array.replicate 7 none
  statics := none }

def pool31 : Array CpInfo := pool [(2, .class_ 4), (1, u "java/util/AbstractList"), (0, u "<init>"), (0, u "()V"), (1, .class_ 10), (1, u "java/util/Collections"), (54, .class_ 66), (0, u "java/util/Collections$EmptyList"), (0, .class_ 68), (0, u "java/util/RandomAccess"), (0, .class_ 70), (0, u "java/io/Serializable"), (0, u "serialVersionUID"), (0, u "J")] 77

def k31m0 : Method := { name := "<init>", desc := "()V", sig := { parameters := [], returnType := none }, accessFlags := 2, code := none }
/-- java/util/Collections$EmptyList -/
def k31 : Class := { plain "java/util/Collections$EmptyList" (some 29) with
  accessFlags := 32
  interfaces := #[30, 2]
  cf := some (fileOf pool31 65 #[.nestHost 8] #[{ accessFlags := 2, nameIndex := 5, descriptorIndex := 6, attributes := #[] }] 32 2 #[67, 69] #[{ accessFlags := 26, nameIndex := 71, descriptorIndex := 72, attributes := #[] }])
  fields := #[{ name := "serialVersionUID", type := .long, accessFlags := 26, slot := 0, constantValue := 0 }]
  methods := #[k31m0]
  instanceTypes := #[.int]
  staticTypes := #[.long]
  resolved := Array.replicate 150 none
  statics := none }

def pool32 : Array CpInfo := pool [(2, .class_ 4), (1, u "java/lang/StackTraceElement"), (0, u "<init>"), (2, .class_ 10), (1, u "java/lang/Object"), (0, u "()V"), (2, u "format"), (0, u "B"), (2, u "classLoaderName"), (0, u "Ljava/lang/String;"), (2, u "moduleName"), (2, u "moduleVersion"), (12, u "declaringClass"), (4, u "methodName"), (2, u "fileName"), (2, u "lineNumber"), (0, u "I"), (65, u "declaringClassObject"), (0, u "Ljava/lang/Class;"), (33, .class_ 153), (1, u "java/lang/StackTraceElement$HashedModules"), (17, .class_ 172), (0, u "java/io/Serializable"), (0, u "NATIVE_METHOD"), (1, u "UNKNOWN_SOURCE"), (2, u "BUILTIN_CLASS_LOADER"), (1, u "JDK_NON_UPGRADEABLE_MODULE"), (1, u "serialVersionUID"), (0, u "J")] 51

def k32m0 : Method := { name := "<init>", desc := "()V", sig := { parameters := [], returnType := none }, accessFlags := 2, code := none }
/-- java/lang/StackTraceElement -/
def k32 : Class := { plain "java/lang/StackTraceElement" (some 0) with
  accessFlags := 49
  interfaces := #[2]
  cf := some (fileOf pool32 2 #[.nestMembers #[151]] #[{ accessFlags := 2, nameIndex := 5, descriptorIndex := 11, attributes := #[] }] 49 8 #[171] #[{ accessFlags := 26, nameIndex := 173, descriptorIndex := 19, attributes := #[] }, { accessFlags := 26, nameIndex := 175, descriptorIndex := 19, attributes := #[] }, { accessFlags := 130, nameIndex := 116, descriptorIndex := 117, attributes := #[] }, { accessFlags := 2, nameIndex := 18, descriptorIndex := 19, attributes := #[] }, { accessFlags := 2, nameIndex := 22, descriptorIndex := 19, attributes := #[] }, { accessFlags := 2, nameIndex := 25, descriptorIndex := 19, attributes := #[] }, { accessFlags := 2, nameIndex := 38, descriptorIndex := 19, attributes := #[] }, { accessFlags := 2, nameIndex := 43, descriptorIndex := 19, attributes := #[] }, { accessFlags := 2, nameIndex := 46, descriptorIndex := 19, attributes := #[] }, { accessFlags := 2, nameIndex := 49, descriptorIndex := 50, attributes := #[] }, { accessFlags := 2, nameIndex := 14, descriptorIndex := 15, attributes := #[] }, { accessFlags := 26, nameIndex := 178, descriptorIndex := 15, attributes := #[] }, { accessFlags := 26, nameIndex := 180, descriptorIndex := 15, attributes := #[] }, { accessFlags := 26, nameIndex := 182, descriptorIndex := 183, attributes := #[] }])
  fields := #[{ name := "NATIVE_METHOD", type := (.object "java/lang/String"), accessFlags := 26, slot := 0, constantValue := 0 }, { name := "UNKNOWN_SOURCE", type := (.object "java/lang/String"), accessFlags := 26, slot := 1, constantValue := 0 }, { name := "declaringClassObject", type := (.object "java/lang/Class"), accessFlags := 130, slot := 0, constantValue := 0 }, { name := "classLoaderName", type := (.object "java/lang/String"), accessFlags := 2, slot := 1, constantValue := 0 }, { name := "moduleName", type := (.object "java/lang/String"), accessFlags := 2, slot := 2, constantValue := 0 }, { name := "moduleVersion", type := (.object "java/lang/String"), accessFlags := 2, slot := 3, constantValue := 0 }, { name := "declaringClass", type := (.object "java/lang/String"), accessFlags := 2, slot := 4, constantValue := 0 }, { name := "methodName", type := (.object "java/lang/String"), accessFlags := 2, slot := 5, constantValue := 0 }, { name := "fileName", type := (.object "java/lang/String"), accessFlags := 2, slot := 6, constantValue := 0 }, { name := "lineNumber", type := .int, accessFlags := 2, slot := 7, constantValue := 0 }, { name := "format", type := .byte, accessFlags := 2, slot := 8, constantValue := 0 }, { name := "BUILTIN_CLASS_LOADER", type := .byte, accessFlags := 26, slot := 2, constantValue := 0 }, { name := "JDK_NON_UPGRADEABLE_MODULE", type := .byte, accessFlags := 26, slot := 3, constantValue := 0 }, { name := "serialVersionUID", type := .long, accessFlags := 26, slot := 4, constantValue := 0 }]
  methods := #[k32m0]
  instanceTypes := #[(.object "java/lang/Class"), (.object "java/lang/String"), (.object "java/lang/String"), (.object "java/lang/String"), (.object "java/lang/String"), (.object "java/lang/String"), (.object "java/lang/String"), .int, .byte]
  staticTypes := #[(.object "java/lang/String"), (.object "java/lang/String"), .byte, .byte, .long]
  resolved := Array.replicate 235 none
  statics := none }

def pool33 : Array CpInfo := pool [(1, u "java/lang/Cloneable"), (0, .class_ 1), (0, u "java/lang/Object"), (0, .class_ 3)] 3

/-- java/lang/Cloneable -/
def k33 : Class := { plain "java/lang/Cloneable" (some 0) with
  accessFlags := 1537
  interfaces := #[]
  cf := some (fileOf pool33 2 #[] #[] 1537 4 #[] #[])
  fields := #[]
  methods := #[]
  instanceTypes := #[]
  staticTypes := #[]
  resolved := Array.replicate 8 none
  statics := none }

/-- the primitive byte -/
def k34 : Class := { plain "byte" none with kind := .primitive 'B', accessFlags := 0x411 }
/-- [B -/
def k35 : Class := { plain "[B" (some 0) with kind := .array 34 .byte, interfaces := #[33, 2], accessFlags := 1041 }

/-- the primitive char -/
def k36 : Class := { plain "char" none with kind := .primitive 'C', accessFlags := 0x411 }
/-- [C -/
def k37 : Class := { plain "[C" (some 0) with kind := .array 36 .char, interfaces := #[33, 2], accessFlags := 1041 }

/-- the primitive int -/
def k38 : Class := { plain "int" none with kind := .primitive 'I', accessFlags := 0x411 }
/-- [I -/
def k39 : Class := { plain "[I" (some 0) with kind := .array 38 .int, interfaces := #[33, 2], accessFlags := 1041 }

/-- [Ljava/lang/Object; -/
def k40 : Class := { plain "[Ljava/lang/Object;" (some 0) with kind := .array 0 (.object "java/lang/Object"), interfaces := #[33, 2], accessFlags := 1041 }

/-- [Ljava/lang/StackTraceElement; -/
def k41 : Class := { plain "[Ljava/lang/StackTraceElement;" (some 0) with kind := .array 32 (.object "java/lang/StackTraceElement"), interfaces := #[33, 2], accessFlags := 1041 }

/-- [Ljava/lang/Throwable; -/
def k42 : Class := { plain "[Ljava/lang/Throwable;" (some 0) with kind := .array 10 (.object "java/lang/Throwable"), interfaces := #[33, 2], accessFlags := 1041 }

def heap : Heap := #[{ cls := 7, slots := #[.long 0, .int 1, .null, .int 0, .null, .int 0, .int 0], vm := .statics 7 },
  { cls := 10, slots := #[.long 0, .ref 4, .ref 5, .null, .null, .null, .null, .ref 6, .int 1], vm := .statics 10 },
  { cls := 22, slots := #[.null, .null, .null], vm := .statics 22 },
  { cls := 23, slots := #[.int 0, .int 0, .int 0, .int 0, .int 0, .int 0, .int 0, .int 0, .null, .null, .ref 5, .null], vm := .statics 23 },
  { cls := 41, slots := #[], vm := .none },
  { cls := 31, slots := #[.int 0], vm := .none },
  { cls := 42, slots := #[], vm := .none }]
def classes : Array Class := #[k0, k1, k2, k3, k4, k5, k6, k7, k8, k9, k10, k11, k12, k13, k14, k15, k16, k17, k18, k19, k20, k21, k22, k23, k24, k25, k26, k27, k28, k29, k30, k31, k32, k33, k34, k35, k36, k37, k38, k39, k40, k41, k42]
def interned : List (Array UInt16 × Addr) := []
def slotsUsed : Nat := 32
def theMethod : MethodId := ⟨1, 1⟩
def args0 : Array Value := #[.int 5, .int 6, .int 7]
def aboutOver (below : List Frame) : State where
  vm := { classes := classes, interned := interned.toArray }
  heap := heap
  slotsUsed := slotsUsed
  threads := #[{ frames := .invoking theMethod args0 :: below }]
def below0 : List Frame := [.native { method := ⟨0, 0⟩, args := #[] }]
def about1 : State := aboutOver below0
def p0 : Program := .bare "" "" ""
def e0 : Env := launch0.env 0 0 0
theorem w_frames : about1.frames = Frame.invoking theMethod args0 :: below0 := rfl
set_option maxRecDepth 65536 in
theorem w_args : argsFit about1.vm theMethod args0 = true := by decide +kernel
set_option maxRecDepth 65536 in
theorem w_heap : heapFits about1 = true := by decide +kernel
set_option maxRecDepth 65536 in
theorem w_runnable : about1.curStatus? = some .runnable := by decide +kernel
set_option maxRecDepth 65536 in
theorem w_alone : about1.alone = true := by decide +kernel
set_option maxRecDepth 65536 in
theorem w_named : about1.methodNamed? x = some theMethod := by decide +kernel
set_option maxRecDepth 65536 in
theorem w_hears : about1.hears theMethod below0 = true := by decide +kernel
set_option maxRecDepth 65536 in
theorem w_ripe : about1.ripe theMethod args0 below0 = true := by decide +kernel
theorem w_running : about1.status = .running := rfl
set_option maxRecDepth 65536 in
theorem w_room : about1.hasRoom e0.platform room_1 = true :=
  launch0.hasRoom_least _ room_1 (by decide +kernel) (by decide +kernel) (by decide +kernel) (by decide +kernel) (by decide +kernel) (by decide +kernel)
theorem allAtoms_all (ts : List Jvm.Cond) (a : Array Jvm.Value) (st : Jvm.State) : (allAtoms ts).before a st = ts.all (fun c => c.before a st) := by
  induction ts with
  | nil => rfl
  | cons c t ih =>
    show (Jvm.Cond.and c (allAtoms t)).before a st = _
    rw [Jvm.Cond.before_and, ih, List.all_cons]
def words1 : List Jvm.Cond := Jvm.Cond.code x code maxLocals ret :: tables_1
/-- a 'code' word, met by the world's own term for the bytes: nothing is compared byte by byte -/
theorem code_word {y : MethodName} {bytes : ByteArray} {mx : Nat} {rt : Option FieldType} {a : Array Value} {s : State} {m : MethodId} {meth : Method} {c : Code} (h1 : s.methodNamed? y = some m) (h2 : s.vm.method? m = some meth) (h3 : meth.code = some c) (h4 : c.code = bytes)
    (h5 : (c.maxLocals == mx && c.exceptionTable.isEmpty && decide (c.maxStack ≤ mostOperands) && decide (meth.sig.returnType = rt) && !meth.locks && decide (parseMethodDescriptor y.desc = some meth.sig)) = true) : (Jvm.Cond.code y bytes mx rt).before a s = true := by
  simp only [Bool.and_eq_true, beq_iff_eq, Bool.not_eq_true', decide_eq_true_eq] at h5
  obtain ⟨⟨⟨⟨⟨g1, g2⟩, g3⟩, g4⟩, g5⟩, g6⟩ := h5
  simp [Cond.before, Cond.holds, Cond.value, h1, h2, h3, h4, g1, g2, g3, g4, g5, g6]
def isCode : Jvm.Cond → Bool
  | .code _ _ _ _ => true
  | _ => false
theorem all_split {L : List Jvm.Cond} {P : Jvm.Cond → Bool} (h1 : L.all (fun c => isCode c || P c) = true) (h2 : ∀ c ∈ L.filter isCode, P c = true) : L.all P = true := by
  refine List.all_eq_true.mpr fun c hc => ?_
  have h := List.all_eq_true.mp h1 c hc
  rcases Bool.eq_false_or_eq_true (isCode c) with hi | hi
  · exact h2 c (List.mem_filter.mpr ⟨hc, hi⟩)
  · simpa [hi] using h
set_option maxRecDepth 65536 in
theorem w_c0 : (Jvm.Cond.code x code maxLocals ret).before args0 about1 = true := code_word (m := ⟨1, 1⟩) (meth := k1m1) (c := k1c1) (by decide +kernel) rfl rfl rfl (by decide +kernel)
set_option maxRecDepth 65536 in
theorem w_c1 : (Jvm.Cond.code ({ cls := "java/lang/String", name := "<init>", desc := "([C)V" } : Jvm.MethodName) jdk_42_method_3_code (2 : Nat) (Option.none : Option Jvm.ClassFile.FieldType)).before args0 about1 = true := code_word (m := ⟨7, 1⟩) (meth := k7m1) (c := k7c1) (by decide +kernel) rfl rfl rfl (by decide +kernel)
set_option maxRecDepth 65536 in
theorem w_c2 : (Jvm.Cond.code ({ cls := "java/lang/String", name := "<init>", desc := "([CIILjava/lang/Void;)V" } : Jvm.MethodName) jdk_42_method_149_code (6 : Nat) (Option.none : Option Jvm.ClassFile.FieldType)).before args0 about1 = true := code_word (m := ⟨7, 6⟩) (meth := k7m6) (c := k7c6) (by decide +kernel) rfl rfl rfl (by decide +kernel)
set_option maxRecDepth 65536 in
theorem w_c3 : (Jvm.Cond.code ({ cls := "java/lang/Object", name := "<init>", desc := "()V" } : Jvm.MethodName) object_method_1_code (1 : Nat) (Option.none : Option Jvm.ClassFile.FieldType)).before args0 about1 = true := code_word (m := ⟨0, 0⟩) (meth := k0m0) (c := k0c0) (by decide +kernel) rfl rfl rfl (by decide +kernel)
set_option maxRecDepth 65536 in
theorem w_c4 : (Jvm.Cond.code ({ cls := "java/lang/StringUTF16", name := "compress", desc := "([CII)[B" } : Jvm.MethodName) jdk_52_method_16_code (6 : Nat) (Option.some (Jvm.ClassFile.FieldType.array Jvm.ClassFile.FieldType.byte))).before args0 about1 = true := code_word (m := ⟨8, 2⟩) (meth := k8m2) (c := k8c2) (by decide +kernel) rfl rfl rfl (by decide +kernel)
set_option maxRecDepth 65536 in
theorem w_c5 : (Jvm.Cond.code ({ cls := "java/lang/StringUTF16", name := "compress", desc := "([CI[BII)I" } : Jvm.MethodName) jdk_52_method_21_code (7 : Nat) (Option.some Jvm.ClassFile.FieldType.int)).before args0 about1 = true := code_word (m := ⟨8, 3⟩) (meth := k8m3) (c := k8c3) (by decide +kernel) rfl rfl rfl (by decide +kernel)
set_option maxRecDepth 65536 in
theorem w_c6 : (Jvm.Cond.code ({ cls := "java/lang/StringUTF16", name := "coderFromArrayLen", desc := "([BI)B" } : Jvm.MethodName) jdk_52_method_15_code (2 : Nat) (Option.some Jvm.ClassFile.FieldType.byte)).before args0 about1 = true := code_word (m := ⟨8, 1⟩) (meth := k8m1) (c := k8c1) (by decide +kernel) rfl rfl rfl (by decide +kernel)
set_option maxRecDepth 65536 in
theorem w_c7 : (Jvm.Cond.code ({ cls := "com/example/forehall/forehall/PathTemplate", name := "notRooted", desc := "(Ljava/lang/String;Ljava/lang/String;)Lcom/example/forehall/forehall/StartupException;" } : Jvm.MethodName) prog_11_method_3_code (2 : Nat) (Option.some (Jvm.ClassFile.FieldType.object "com/example/forehall/forehall/StartupException"))).before args0 about1 = true := code_word (m := ⟨9, 0⟩) (meth := k9m0) (c := k9c0) (by decide +kernel) rfl rfl rfl (by decide +kernel)
set_option maxRecDepth 65536 in
theorem w_c8 : (Jvm.Cond.code ({ cls := "java/lang/StringBuilder", name := "<init>", desc := "()V" } : Jvm.MethodName) jdk_67_method_1_code (1 : Nat) (Option.none : Option Jvm.ClassFile.FieldType)).before args0 about1 = true := code_word (m := ⟨16, 0⟩) (meth := k16m0) (c := k16c0) (by decide +kernel) rfl rfl rfl (by decide +kernel)
set_option maxRecDepth 65536 in
theorem w_c9 : (Jvm.Cond.code ({ cls := "java/lang/AbstractStringBuilder", name := "<init>", desc := "(I)V" } : Jvm.MethodName) jdk_68_method_2_code (2 : Nat) (Option.none : Option Jvm.ClassFile.FieldType)).before args0 about1 = true := code_word (m := ⟨15, 1⟩) (meth := k15m1) (c := k15c1) (by decide +kernel) rfl rfl rfl (by decide +kernel)
set_option maxRecDepth 65536 in
theorem w_c10 : (Jvm.Cond.code ({ cls := "java/lang/StringBuilder", name := "append", desc := "(Ljava/lang/String;)Ljava/lang/StringBuilder;" } : Jvm.MethodName) jdk_67_method_7_code (2 : Nat) (Option.some (Jvm.ClassFile.FieldType.object "java/lang/StringBuilder"))).before args0 about1 = true := code_word (m := ⟨16, 1⟩) (meth := k16m1) (c := k16c1) (by decide +kernel) rfl rfl rfl (by decide +kernel)
set_option maxRecDepth 65536 in
theorem w_c11 : (Jvm.Cond.code ({ cls := "java/lang/AbstractStringBuilder", name := "append", desc := "(Ljava/lang/String;)Ljava/lang/AbstractStringBuilder;" } : Jvm.MethodName) jdk_68_method_22_code (3 : Nat) (Option.some (Jvm.ClassFile.FieldType.object "java/lang/AbstractStringBuilder"))).before args0 about1 = true := code_word (m := ⟨15, 5⟩) (meth := k15m5) (c := k15c5) (by decide +kernel) rfl rfl rfl (by decide +kernel)
set_option maxRecDepth 65536 in
theorem w_c12 : (Jvm.Cond.code ({ cls := "java/lang/String", name := "length", desc := "()I" } : Jvm.MethodName) jdk_42_method_54_code (1 : Nat) (Option.some Jvm.ClassFile.FieldType.int)).before args0 about1 = true := code_word (m := ⟨7, 3⟩) (meth := k7m3) (c := k7c3) (by decide +kernel) rfl rfl rfl (by decide +kernel)
set_option maxRecDepth 65536 in
theorem w_c13 : (Jvm.Cond.code ({ cls := "java/lang/String", name := "coder", desc := "()B" } : Jvm.MethodName) jdk_42_method_152_code (1 : Nat) (Option.some Jvm.ClassFile.FieldType.byte)).before args0 about1 = true := code_word (m := ⟨7, 8⟩) (meth := k7m8) (c := k7c8) (by decide +kernel) rfl rfl rfl (by decide +kernel)
set_option maxRecDepth 65536 in
theorem w_c14 : (Jvm.Cond.code ({ cls := "java/lang/AbstractStringBuilder", name := "ensureCapacityInternal", desc := "(I)V" } : Jvm.MethodName) jdk_68_method_9_code (3 : Nat) (Option.none : Option Jvm.ClassFile.FieldType)).before args0 about1 = true := code_word (m := ⟨15, 3⟩) (meth := k15m3) (c := k15c3) (by decide +kernel) rfl rfl rfl (by decide +kernel)
set_option maxRecDepth 65536 in
theorem w_c15 : (Jvm.Cond.code ({ cls := "java/lang/AbstractStringBuilder", name := "putStringAt", desc := "(ILjava/lang/String;)V" } : Jvm.MethodName) jdk_68_method_73_code (3 : Nat) (Option.none : Option Jvm.ClassFile.FieldType)).before args0 about1 = true := code_word (m := ⟨15, 9⟩) (meth := k15m9) (c := k15c9) (by decide +kernel) rfl rfl rfl (by decide +kernel)
set_option maxRecDepth 65536 in
theorem w_c16 : (Jvm.Cond.code ({ cls := "java/lang/AbstractStringBuilder", name := "inflateIfNeededFor", desc := "(Ljava/lang/String;)V" } : Jvm.MethodName) jdk_68_method_71_code (2 : Nat) (Option.none : Option Jvm.ClassFile.FieldType)).before args0 about1 = true := code_word (m := ⟨15, 8⟩) (meth := k15m8) (c := k15c8) (by decide +kernel) rfl rfl rfl (by decide +kernel)
set_option maxRecDepth 65536 in
theorem w_c17 : (Jvm.Cond.code ({ cls := "java/lang/String", name := "getBytes", desc := "([BIB)V" } : Jvm.MethodName) jdk_42_method_147_code (4 : Nat) (Option.none : Option Jvm.ClassFile.FieldType)).before args0 about1 = true := code_word (m := ⟨7, 5⟩) (meth := k7m5) (c := k7c5) (by decide +kernel) rfl rfl rfl (by decide +kernel)
set_option maxRecDepth 65536 in
theorem w_c18 : (Jvm.Cond.code ({ cls := "java/lang/AbstractStringBuilder", name := "newCapacity", desc := "(I)I" } : Jvm.MethodName) jdk_68_method_10_code (6 : Nat) (Option.some Jvm.ClassFile.FieldType.int)).before args0 about1 = true := code_word (m := ⟨15, 4⟩) (meth := k15m4) (c := k15c4) (by decide +kernel) rfl rfl rfl (by decide +kernel)
set_option maxRecDepth 65536 in
theorem w_c19 : (Jvm.Cond.code ({ cls := "jdk/internal/util/ArraysSupport", name := "newLength", desc := "(III)I" } : Jvm.MethodName) jdk_48_method_27_code (4 : Nat) (Option.some Jvm.ClassFile.FieldType.int)).before args0 about1 = true := code_word (m := ⟨18, 1⟩) (meth := k18m1) (c := k18c1) (by decide +kernel) rfl rfl rfl (by decide +kernel)
set_option maxRecDepth 65536 in
theorem w_c20 : (Jvm.Cond.code ({ cls := "java/lang/Math", name := "max", desc := "(II)I" } : Jvm.MethodName) jdk_29_method_65_code (2 : Nat) (Option.some Jvm.ClassFile.FieldType.int)).before args0 about1 = true := code_word (m := ⟨19, 1⟩) (meth := k19m1) (c := k19c1) (by decide +kernel) rfl rfl rfl (by decide +kernel)
set_option maxRecDepth 65536 in
theorem w_c21 : (Jvm.Cond.code ({ cls := "java/util/Arrays", name := "copyOf", desc := "([BI)[B" } : Jvm.MethodName) jdk_65_method_121_code (3 : Nat) (Option.some (Jvm.ClassFile.FieldType.array Jvm.ClassFile.FieldType.byte))).before args0 about1 = true := code_word (m := ⟨20, 1⟩) (meth := k20m1) (c := k20c1) (by decide +kernel) rfl rfl rfl (by decide +kernel)
set_option maxRecDepth 65536 in
theorem w_c22 : (Jvm.Cond.code ({ cls := "java/lang/Math", name := "min", desc := "(II)I" } : Jvm.MethodName) jdk_29_method_69_code (2 : Nat) (Option.some Jvm.ClassFile.FieldType.int)).before args0 about1 = true := code_word (m := ⟨19, 2⟩) (meth := k19m2) (c := k19c2) (by decide +kernel) rfl rfl rfl (by decide +kernel)
set_option maxRecDepth 65536 in
theorem w_c23 : (Jvm.Cond.code ({ cls := "java/lang/StringBuilder", name := "toString", desc := "()Ljava/lang/String;" } : Jvm.MethodName) jdk_67_method_42_code (1 : Nat) (Option.some (Jvm.ClassFile.FieldType.object "java/lang/String"))).before args0 about1 = true := code_word (m := ⟨16, 2⟩) (meth := k16m2) (c := k16c2) (by decide +kernel) rfl rfl rfl (by decide +kernel)
set_option maxRecDepth 65536 in
theorem w_c24 : (Jvm.Cond.code ({ cls := "java/lang/String", name := "<init>", desc := "(Ljava/lang/StringBuilder;)V" } : Jvm.MethodName) jdk_42_method_53_code (2 : Nat) (Option.none : Option Jvm.ClassFile.FieldType)).before args0 about1 = true := code_word (m := ⟨7, 2⟩) (meth := k7m2) (c := k7c2) (by decide +kernel) rfl rfl rfl (by decide +kernel)
set_option maxRecDepth 65536 in
theorem w_c25 : (Jvm.Cond.code ({ cls := "java/lang/String", name := "<init>", desc := "(Ljava/lang/AbstractStringBuilder;Ljava/lang/Void;)V" } : Jvm.MethodName) jdk_42_method_150_code (5 : Nat) (Option.none : Option Jvm.ClassFile.FieldType)).before args0 about1 = true := code_word (m := ⟨7, 7⟩) (meth := k7m7) (c := k7c7) (by decide +kernel) rfl rfl rfl (by decide +kernel)
set_option maxRecDepth 65536 in
theorem w_c26 : (Jvm.Cond.code ({ cls := "java/lang/AbstractStringBuilder", name := "getValue", desc := "()[B" } : Jvm.MethodName) jdk_68_method_64_code (1 : Nat) (Option.some (Jvm.ClassFile.FieldType.array Jvm.ClassFile.FieldType.byte))).before args0 about1 = true := code_word (m := ⟨15, 6⟩) (meth := k15m6) (c := k15c6) (by decide +kernel) rfl rfl rfl (by decide +kernel)
set_option maxRecDepth 65536 in
theorem w_c27 : (Jvm.Cond.code ({ cls := "java/lang/StringBuilder", name := "length", desc := "()I" } : Jvm.MethodName) jdk_67_method_93_code (1 : Nat) (Option.some Jvm.ClassFile.FieldType.int)).before args0 about1 = true := code_word (m := ⟨16, 3⟩) (meth := k16m3) (c := k16c3) (by decide +kernel) rfl rfl rfl (by decide +kernel)
set_option maxRecDepth 65536 in
theorem w_c28 : (Jvm.Cond.code ({ cls := "java/lang/AbstractStringBuilder", name := "length", desc := "()I" } : Jvm.MethodName) jdk_68_method_6_code (1 : Nat) (Option.some Jvm.ClassFile.FieldType.int)).before args0 about1 = true := code_word (m := ⟨15, 2⟩) (meth := k15m2) (c := k15c2) (by decide +kernel) rfl rfl rfl (by decide +kernel)
set_option maxRecDepth 65536 in
theorem w_c29 : (Jvm.Cond.code ({ cls := "java/lang/AbstractStringBuilder", name := "isLatin1", desc := "()Z" } : Jvm.MethodName) jdk_68_method_68_code (1 : Nat) (Option.some Jvm.ClassFile.FieldType.boolean)).before args0 about1 = true := code_word (m := ⟨15, 7⟩) (meth := k15m7) (c := k15c7) (by decide +kernel) rfl rfl rfl (by decide +kernel)
set_option maxRecDepth 65536 in
theorem w_c30 : (Jvm.Cond.code ({ cls := "java/util/Arrays", name := "copyOfRange", desc := "([BII)[B" } : Jvm.MethodName) jdk_65_method_132_code (3 : Nat) (Option.some (Jvm.ClassFile.FieldType.array Jvm.ClassFile.FieldType.byte))).before args0 about1 = true := code_word (m := ⟨20, 3⟩) (meth := k20m3) (c := k20c3) (by decide +kernel) rfl rfl rfl (by decide +kernel)
set_option maxRecDepth 65536 in
theorem w_c31 : (Jvm.Cond.code ({ cls := "java/util/Arrays", name := "copyOfRangeByte", desc := "([BII)[B" } : Jvm.MethodName) jdk_65_method_133_code (5 : Nat) (Option.some (Jvm.ClassFile.FieldType.array Jvm.ClassFile.FieldType.byte))).before args0 about1 = true := code_word (m := ⟨20, 4⟩) (meth := k20m4) (c := k20c4) (by decide +kernel) rfl rfl rfl (by decide +kernel)
set_option maxRecDepth 65536 in
theorem w_c32 : (Jvm.Cond.code ({ cls := "java/util/Arrays", name := "checkLength", desc := "(II)V" } : Jvm.MethodName) jdk_65_method_131_code (2 : Nat) (Option.none : Option Jvm.ClassFile.FieldType)).before args0 about1 = true := code_word (m := ⟨20, 2⟩) (meth := k20m2) (c := k20c2) (by decide +kernel) rfl rfl rfl (by decide +kernel)
set_option maxRecDepth 65536 in
theorem w_c33 : (Jvm.Cond.code ({ cls := "com/example/forehall/forehall/StartupException", name := "<init>", desc := "(Ljava/lang/String;)V" } : Jvm.MethodName) prog_22_method_1_code (2 : Nat) (Option.none : Option Jvm.ClassFile.FieldType)).before args0 about1 = true := code_word (m := ⟨13, 0⟩) (meth := k13m0) (c := k13c0) (by decide +kernel) rfl rfl rfl (by decide +kernel)
set_option maxRecDepth 65536 in
theorem w_c34 : (Jvm.Cond.code ({ cls := "java/lang/RuntimeException", name := "<init>", desc := "(Ljava/lang/String;)V" } : Jvm.MethodName) jdk_58_method_2_code (2 : Nat) (Option.none : Option Jvm.ClassFile.FieldType)).before args0 about1 = true := code_word (m := ⟨12, 1⟩) (meth := k12m1) (c := k12c1) (by decide +kernel) rfl rfl rfl (by decide +kernel)
set_option maxRecDepth 65536 in
theorem w_c35 : (Jvm.Cond.code ({ cls := "java/lang/Exception", name := "<init>", desc := "(Ljava/lang/String;)V" } : Jvm.MethodName) jdk_59_method_2_code (2 : Nat) (Option.none : Option Jvm.ClassFile.FieldType)).before args0 about1 = true := code_word (m := ⟨11, 1⟩) (meth := k11m1) (c := k11c1) (by decide +kernel) rfl rfl rfl (by decide +kernel)
set_option maxRecDepth 65536 in
theorem w_c36 : (Jvm.Cond.code ({ cls := "java/lang/Throwable", name := "<init>", desc := "(Ljava/lang/String;)V" } : Jvm.MethodName) jdk_78_method_2_code (2 : Nat) (Option.none : Option Jvm.ClassFile.FieldType)).before args0 about1 = true := code_word (m := ⟨10, 1⟩) (meth := k10m1) (c := k10c1) (by decide +kernel) rfl rfl rfl (by decide +kernel)
set_option maxRecDepth 65536 in
theorem w_c37 : (Jvm.Cond.code ({ cls := "java/lang/Throwable", name := "<init>", desc := "()V" } : Jvm.MethodName) jdk_78_method_1_code (1 : Nat) (Option.none : Option Jvm.ClassFile.FieldType)).before args0 about1 = true := code_word (m := ⟨10, 0⟩) (meth := k10m0) (c := k10c0) (by decide +kernel) rfl rfl rfl (by decide +kernel)
set_option maxRecDepth 65536 in
theorem w_c38 : (Jvm.Cond.code ({ cls := "java/lang/Throwable", name := "getMessage", desc := "()Ljava/lang/String;" } : Jvm.MethodName) jdk_78_method_6_code (1 : Nat) (Option.some (Jvm.ClassFile.FieldType.object "java/lang/String"))).before args0 about1 = true := code_word (m := ⟨10, 2⟩) (meth := k10m2) (c := k10c2) (by decide +kernel) rfl rfl rfl (by decide +kernel)
set_option maxRecDepth 65536 in
theorem w_c39 : (Jvm.Cond.code ({ cls := "java/lang/String", name := "equals", desc := "(Ljava/lang/Object;)Z" } : Jvm.MethodName) jdk_42_method_66_code (3 : Nat) (Option.some Jvm.ClassFile.FieldType.boolean)).before args0 about1 = true := code_word (m := ⟨7, 4⟩) (meth := k7m4) (c := k7c4) (by decide +kernel) rfl rfl rfl (by decide +kernel)
set_option maxRecDepth 65536 in
theorem w_c40 : (Jvm.Cond.code ({ cls := "java/lang/StringLatin1", name := "equals", desc := "([B[B)Z" } : Jvm.MethodName) jdk_43_method_13_code (3 : Nat) (Option.some Jvm.ClassFile.FieldType.boolean)).before args0 about1 = true := code_word (m := ⟨21, 1⟩) (meth := k21m1) (c := k21c1) (by decide +kernel) rfl rfl rfl (by decide +kernel)
def codes1 : List Jvm.Cond := [Jvm.Cond.code x code maxLocals ret, Jvm.Cond.code ({ cls := "java/lang/String", name := "<init>", desc := "([C)V" } : Jvm.MethodName) jdk_42_method_3_code (2 : Nat) (Option.none : Option Jvm.ClassFile.FieldType), Jvm.Cond.code ({ cls := "java/lang/String", name := "<init>", desc := "([CIILjava/lang/Void;)V" } : Jvm.MethodName) jdk_42_method_149_code (6 : Nat) (Option.none : Option Jvm.ClassFile.FieldType), Jvm.Cond.code ({ cls := "java/lang/Object", name := "<init>", desc := "()V" } : Jvm.MethodName) object_method_1_code (1 : Nat) (Option.none : Option Jvm.ClassFile.FieldType), Jvm.Cond.code ({ cls := "java/lang/StringUTF16", name := "compress", desc := "([CII)[B" } : Jvm.MethodName) jdk_52_method_16_code (6 : Nat) (Option.some (Jvm.ClassFile.FieldType.array Jvm.ClassFile.FieldType.byte)), Jvm.Cond.code ({ cls := "java/lang/StringUTF16", name := "compress", desc := "([CI[BII)I" } : Jvm.MethodName) jdk_52_method_21_code (7 : Nat) (Option.some Jvm.ClassFile.FieldType.int), Jvm.Cond.code ({ cls := "java/lang/StringUTF16", name := "coderFromArrayLen", desc := "([BI)B" } : Jvm.MethodName) jdk_52_method_15_code (2 : Nat) (Option.some Jvm.ClassFile.FieldType.byte), Jvm.Cond.code ({ cls := "com/example/forehall/forehall/PathTemplate", name := "notRooted", desc := "(Ljava/lang/String;Ljava/lang/String;)Lcom/example/forehall/forehall/StartupException;" } : Jvm.MethodName) prog_11_method_3_code (2 : Nat) (Option.some (Jvm.ClassFile.FieldType.object "com/example/forehall/forehall/StartupException")), Jvm.Cond.code ({ cls := "java/lang/StringBuilder", name := "<init>", desc := "()V" } : Jvm.MethodName) jdk_67_method_1_code (1 : Nat) (Option.none : Option Jvm.ClassFile.FieldType), Jvm.Cond.code ({ cls := "java/lang/AbstractStringBuilder", name := "<init>", desc := "(I)V" } : Jvm.MethodName) jdk_68_method_2_code (2 : Nat) (Option.none : Option Jvm.ClassFile.FieldType), Jvm.Cond.code ({ cls := "java/lang/StringBuilder", name := "append", desc := "(Ljava/lang/String;)Ljava/lang/StringBuilder;" } : Jvm.MethodName) jdk_67_method_7_code (2 : Nat) (Option.some (Jvm.ClassFile.FieldType.object "java/lang/StringBuilder")), Jvm.Cond.code ({ cls := "java/lang/AbstractStringBuilder", name := "append", desc := "(Ljava/lang/String;)Ljava/lang/AbstractStringBuilder;" } : Jvm.MethodName) jdk_68_method_22_code (3 : Nat) (Option.some (Jvm.ClassFile.FieldType.object "java/lang/AbstractStringBuilder")), Jvm.Cond.code ({ cls := "java/lang/String", name := "length", desc := "()I" } : Jvm.MethodName) jdk_42_method_54_code (1 : Nat) (Option.some Jvm.ClassFile.FieldType.int), Jvm.Cond.code ({ cls := "java/lang/String", name := "coder", desc := "()B" } : Jvm.MethodName) jdk_42_method_152_code (1 : Nat) (Option.some Jvm.ClassFile.FieldType.byte), Jvm.Cond.code ({ cls := "java/lang/AbstractStringBuilder", name := "ensureCapacityInternal", desc := "(I)V" } : Jvm.MethodName) jdk_68_method_9_code (3 : Nat) (Option.none : Option Jvm.ClassFile.FieldType), Jvm.Cond.code ({ cls := "java/lang/AbstractStringBuilder", name := "putStringAt", desc := "(ILjava/lang/String;)V" } : Jvm.MethodName) jdk_68_method_73_code (3 : Nat) (Option.none : Option Jvm.ClassFile.FieldType), Jvm.Cond.code ({ cls := "java/lang/AbstractStringBuilder", name := "inflateIfNeededFor", desc := "(Ljava/lang/String;)V" } : Jvm.MethodName) jdk_68_method_71_code (2 : Nat) (Option.none : Option Jvm.ClassFile.FieldType), Jvm.Cond.code ({ cls := "java/lang/String", name := "getBytes", desc := "([BIB)V" } : Jvm.MethodName) jdk_42_method_147_code (4 : Nat) (Option.none : Option Jvm.ClassFile.FieldType), Jvm.Cond.code ({ cls := "java/lang/AbstractStringBuilder", name := "newCapacity", desc := "(I)I" } : Jvm.MethodName) jdk_68_method_10_code (6 : Nat) (Option.some Jvm.ClassFile.FieldType.int), Jvm.Cond.code ({ cls := "jdk/internal/util/ArraysSupport", name := "newLength", desc := "(III)I" } : Jvm.MethodName) jdk_48_method_27_code (4 : Nat) (Option.some Jvm.ClassFile.FieldType.int), Jvm.Cond.code ({ cls := "java/lang/Math", name := "max", desc := "(II)I" } : Jvm.MethodName) jdk_29_method_65_code (2 : Nat) (Option.some Jvm.ClassFile.FieldType.int), Jvm.Cond.code ({ cls := "java/util/Arrays", name := "copyOf", desc := "([BI)[B" } : Jvm.MethodName) jdk_65_method_121_code (3 : Nat) (Option.some (Jvm.ClassFile.FieldType.array Jvm.ClassFile.FieldType.byte)), Jvm.Cond.code ({ cls := "java/lang/Math", name := "min", desc := "(II)I" } : Jvm.MethodName) jdk_29_method_69_code (2 : Nat) (Option.some Jvm.ClassFile.FieldType.int), Jvm.Cond.code ({ cls := "java/lang/StringBuilder", name := "toString", desc := "()Ljava/lang/String;" } : Jvm.MethodName) jdk_67_method_42_code (1 : Nat) (Option.some (Jvm.ClassFile.FieldType.object "java/lang/String")), Jvm.Cond.code ({ cls := "java/lang/String", name := "<init>", desc := "(Ljava/lang/StringBuilder;)V" } : Jvm.MethodName) jdk_42_method_53_code (2 : Nat) (Option.none : Option Jvm.ClassFile.FieldType), Jvm.Cond.code ({ cls := "java/lang/String", name := "<init>", desc := "(Ljava/lang/AbstractStringBuilder;Ljava/lang/Void;)V" } : Jvm.MethodName) jdk_42_method_150_code (5 : Nat) (Option.none : Option Jvm.ClassFile.FieldType), Jvm.Cond.code ({ cls := "java/lang/AbstractStringBuilder", name := "getValue", desc := "()[B" } : Jvm.MethodName) jdk_68_method_64_code (1 : Nat) (Option.some (Jvm.ClassFile.FieldType.array Jvm.ClassFile.FieldType.byte)), Jvm.Cond.code ({ cls := "java/lang/StringBuilder", name := "length", desc := "()I" } : Jvm.MethodName) jdk_67_method_93_code (1 : Nat) (Option.some Jvm.ClassFile.FieldType.int), Jvm.Cond.code ({ cls := "java/lang/AbstractStringBuilder", name := "length", desc := "()I" } : Jvm.MethodName) jdk_68_method_6_code (1 : Nat) (Option.some Jvm.ClassFile.FieldType.int), Jvm.Cond.code ({ cls := "java/lang/AbstractStringBuilder", name := "isLatin1", desc := "()Z" } : Jvm.MethodName) jdk_68_method_68_code (1 : Nat) (Option.some Jvm.ClassFile.FieldType.boolean), Jvm.Cond.code ({ cls := "java/util/Arrays", name := "copyOfRange", desc := "([BII)[B" } : Jvm.MethodName) jdk_65_method_132_code (3 : Nat) (Option.some (Jvm.ClassFile.FieldType.array Jvm.ClassFile.FieldType.byte)), Jvm.Cond.code ({ cls := "java/util/Arrays", name := "copyOfRangeByte", desc := "([BII)[B" } : Jvm.MethodName) jdk_65_method_133_code (5 : Nat) (Option.some (Jvm.ClassFile.FieldType.array Jvm.ClassFile.FieldType.byte)), Jvm.Cond.code ({ cls := "java/util/Arrays", name := "checkLength", desc := "(II)V" } : Jvm.MethodName) jdk_65_method_131_code (2 : Nat) (Option.none : Option Jvm.ClassFile.FieldType), Jvm.Cond.code ({ cls := "com/example/forehall/forehall/StartupException", name := "<init>", desc := "(Ljava/lang/String;)V" } : Jvm.MethodName) prog_22_method_1_code (2 : Nat) (Option.none : Option Jvm.ClassFile.FieldType), Jvm.Cond.code ({ cls := "java/lang/RuntimeException", name := "<init>", desc := "(Ljava/lang/String;)V" } : Jvm.MethodName) jdk_58_method_2_code (2 : Nat) (Option.none : Option Jvm.ClassFile.FieldType), Jvm.Cond.code ({ cls := "java/lang/Exception", name := "<init>", desc := "(Ljava/lang/String;)V" } : Jvm.MethodName) jdk_59_method_2_code (2 : Nat) (Option.none : Option Jvm.ClassFile.FieldType), Jvm.Cond.code ({ cls := "java/lang/Throwable", name := "<init>", desc := "(Ljava/lang/String;)V" } : Jvm.MethodName) jdk_78_method_2_code (2 : Nat) (Option.none : Option Jvm.ClassFile.FieldType), Jvm.Cond.code ({ cls := "java/lang/Throwable", name := "<init>", desc := "()V" } : Jvm.MethodName) jdk_78_method_1_code (1 : Nat) (Option.none : Option Jvm.ClassFile.FieldType), Jvm.Cond.code ({ cls := "java/lang/Throwable", name := "getMessage", desc := "()Ljava/lang/String;" } : Jvm.MethodName) jdk_78_method_6_code (1 : Nat) (Option.some (Jvm.ClassFile.FieldType.object "java/lang/String")), Jvm.Cond.code ({ cls := "java/lang/String", name := "equals", desc := "(Ljava/lang/Object;)Z" } : Jvm.MethodName) jdk_42_method_66_code (3 : Nat) (Option.some Jvm.ClassFile.FieldType.boolean), Jvm.Cond.code ({ cls := "java/lang/StringLatin1", name := "equals", desc := "([B[B)Z" } : Jvm.MethodName) jdk_43_method_13_code (3 : Nat) (Option.some Jvm.ClassFile.FieldType.boolean)]
set_option maxRecDepth 65536 in
theorem codes_eq : words1.filter isCode = codes1 := rfl
theorem w_codes : ∀ c ∈ words1.filter isCode, c.before args0 about1 = true := by
  rw [codes_eq]
  intro c hc
  simp only [codes1, List.mem_cons, List.not_mem_nil, or_false] at hc
  rcases hc with rfl | rfl | rfl | rfl | rfl | rfl | rfl | rfl | rfl | rfl | rfl | rfl | rfl | rfl | rfl | rfl | rfl | rfl | rfl | rfl | rfl | rfl | rfl | rfl | rfl | rfl | rfl | rfl | rfl | rfl | rfl | rfl | rfl | rfl | rfl | rfl | rfl | rfl | rfl | rfl | rfl
  · exact w_c0
  · exact w_c1
  · exact w_c2
  · exact w_c3
  · exact w_c4
  · exact w_c5
  · exact w_c6
  · exact w_c7
  · exact w_c8
  · exact w_c9
  · exact w_c10
  · exact w_c11
  · exact w_c12
  · exact w_c13
  · exact w_c14
  · exact w_c15
  · exact w_c16
  · exact w_c17
  · exact w_c18
  · exact w_c19
  · exact w_c20
  · exact w_c21
  · exact w_c22
  · exact w_c23
  · exact w_c24
  · exact w_c25
  · exact w_c26
  · exact w_c27
  · exact w_c28
  · exact w_c29
  · exact w_c30
  · exact w_c31
  · exact w_c32
  · exact w_c33
  · exact w_c34
  · exact w_c35
  · exact w_c36
  · exact w_c37
  · exact w_c38
  · exact w_c39
  · exact w_c40
set_option maxRecDepth 65536 in
theorem w_t1 : (words1.take 24).all (fun c => isCode c || c.before args0 about1) = true := by decide +kernel
set_option maxRecDepth 65536 in
theorem w_t2 : ((words1.drop 24).take 24).all (fun c => isCode c || c.before args0 about1) = true := by decide +kernel
set_option maxRecDepth 65536 in
theorem w_t3 : (((words1.drop 24).drop 24).take 24).all (fun c => isCode c || c.before args0 about1) = true := by decide +kernel
set_option maxRecDepth 65536 in
theorem w_t4 : ((((words1.drop 24).drop 24).drop 24).take 24).all (fun c => isCode c || c.before args0 about1) = true := by decide +kernel
set_option maxRecDepth 65536 in
theorem w_t5 : (((((words1.drop 24).drop 24).drop 24).drop 24).take 24).all (fun c => isCode c || c.before args0 about1) = true := by decide +kernel
set_option maxRecDepth 65536 in
theorem w_t6 : ((((((words1.drop 24).drop 24).drop 24).drop 24).drop 24).take 24).all (fun c => isCode c || c.before args0 about1) = true := by decide +kernel
set_option maxRecDepth 65536 in
theorem w_t7 : (((((((words1.drop 24).drop 24).drop 24).drop 24).drop 24).drop 24).take 24).all (fun c => isCode c || c.before args0 about1) = true := by decide +kernel
set_option maxRecDepth 65536 in
theorem w_t8 : ((((((((words1.drop 24).drop 24).drop 24).drop 24).drop 24).drop 24).drop 24).take 24).all (fun c => isCode c || c.before args0 about1) = true := by decide +kernel
set_option maxRecDepth 65536 in
theorem w_t9 : (((((((((words1.drop 24).drop 24).drop 24).drop 24).drop 24).drop 24).drop 24).drop 24).take 24).all (fun c => isCode c || c.before args0 about1) = true := by decide +kernel
set_option maxRecDepth 65536 in
theorem w_t10 : ((((((((((words1.drop 24).drop 24).drop 24).drop 24).drop 24).drop 24).drop 24).drop 24).drop 24).take 24).all (fun c => isCode c || c.before args0 about1) = true := by decide +kernel
set_option maxRecDepth 65536 in
theorem w_t11 : ((((((((((words1.drop 24).drop 24).drop 24).drop 24).drop 24).drop 24).drop 24).drop 24).drop 24).drop 24).all (fun c => isCode c || c.before args0 about1) = true := by decide +kernel
theorem w_tables : (allAtoms (Jvm.Cond.code x code maxLocals ret :: tables_1)).before args0 about1 = true := by
  rw [allAtoms_all]
  show words1.all (fun c => c.before args0 about1) = true
  refine all_split ?_ w_codes
  rw [← List.take_append_drop 24 words1, List.all_append, w_t1, ← List.take_append_drop 24 (words1.drop 24), List.all_append, w_t2, ← List.take_append_drop 24 ((words1.drop 24).drop 24), List.all_append, w_t3, ← List.take_append_drop 24 (((words1.drop 24).drop 24).drop 24), List.all_append, w_t4, ← List.take_append_drop 24 ((((words1.drop 24).drop 24).drop 24).drop 24), List.all_append, w_t5, ← List.take_append_drop 24 (((((words1.drop 24).drop 24).drop 24).drop 24).drop 24), List.all_append, w_t6, ← List.take_append_drop 24 ((((((words1.drop 24).drop 24).drop 24).drop 24).drop 24).drop 24), List.all_append, w_t7, ← List.take_append_drop 24 (((((((words1.drop 24).drop 24).drop 24).drop 24).drop 24).drop 24).drop 24), List.all_append, w_t8, ← List.take_append_drop 24 ((((((((words1.drop 24).drop 24).drop 24).drop 24).drop 24).drop 24).drop 24).drop 24), List.all_append, w_t9, ← List.take_append_drop 24 (((((((((words1.drop 24).drop 24).drop 24).drop 24).drop 24).drop 24).drop 24).drop 24).drop 24), List.all_append, w_t10, w_t11]
  rfl
set_option maxRecDepth 65536 in
theorem w_rest : rest_1_c.before args0 about1 = true := by decide +kernel
set_option maxRecDepth 65536 in
theorem w_case : (Jvm.Cond.and given_1 narrow_1).before args0 about1 = true := by decide +kernel
set_option maxRecDepth 65536 in
theorem w_consts : constsHeld consts_1 about1 := Jvm.Lit.constsHeldB_iff.mp (by decide +kernel)
theorem w_applies : (headSpec (Jvm.Cond.code x code maxLocals ret :: tables_1) room_1).applies x e0.platform about1 = true :=
  (Spec.applies_iff w_frames).mpr ⟨w_running, w_runnable, w_alone, w_named, w_hears, w_ripe, w_room, w_tables⟩
theorem atStart : AtStart classFile x code maxLocals ret World_1 tables_1 room_1 Calls_1 rest_1 Pre_1 launch0 p0 e0 about1 theMethod args0 below0 :=
  ⟨lists_1, trivial, launch0.admits_env _ _ _, launch0.least_env, fairChoices_fair.cas, fairChoices_fair.clock, w_frames, w_args, w_heap, w_applies, ⟨(by decide +kernel : framesKnown about1 = true), ⟨(by decide +kernel : tablesKnown about1 = true), ⟨w_consts, trivial⟩⟩⟩, w_rest, w_case⟩
end start1
theorem witness_1 : WitnessClaimed_1 := ⟨start1.p0, start1.e0, start1.about1, start1.theMethod, start1.args0, start1.below0, start1.atStart⟩
end Jvm.Pilot.@@N@@
