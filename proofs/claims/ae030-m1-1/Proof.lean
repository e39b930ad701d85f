import JvmDerived
import JvmDerived.Pilot.@@N@@Statement
import JvmDerived.Pilot.@@N@@Code
set_option linter.unusedVariables false
set_option linter.unusedSimpArgs false
namespace Jvm.OwnK
open Sem ClassFile Op Lib Bundle Jvm.Stand Jvm.Free Jvm.LawKit Jvm.RoadKit
/-! A small calculus of runs over the library's Stand, own text. Run: from any state that stands with heap h at pc, locals L, stack S, the run ends well. -/
abbrev Kx : Type := Program × Launch × Env × Room × State × MethodId × Array Value × List Frame × Method × Code
abbrev Kx.p (K : Kx) : Program := K.1
abbrev Kx.l (K : Kx) : Launch := K.2.1
abbrev Kx.e (K : Kx) : Env := K.2.2.1
abbrev Kx.R (K : Kx) : Room := K.2.2.2.1
abbrev Kx.s (K : Kx) : State := K.2.2.2.2.1
abbrev Kx.m (K : Kx) : MethodId := K.2.2.2.2.2.1
abbrev Kx.as (K : Kx) : Array Value := K.2.2.2.2.2.2.1
abbrev Kx.bl (K : Kx) : List Frame := K.2.2.2.2.2.2.2.1
abbrev Kx.me (K : Kx) : Method := K.2.2.2.2.2.2.2.2.1
abbrev Kx.c (K : Kx) : Code := K.2.2.2.2.2.2.2.2.2
/-- the walk stands at T, its heap h, cl cells and sl slots made; W: places that no booked constant holds -/
def St (Z : State) (EL : List (String × Nat)) (nI : Bool) (K : Kx) (W : List Addr) (h : Heap) (cl sl : Nat) (T : State) : Prop :=
  ∃ (vm0 : Vm) (k0 : Nat) (locs : List Loc), Stand K.p K.l K.e K.R (K.s.setVm vm0) K.m K.as K.bl K.me K.c T locs cl sl ∧ K.s.Since vm0 k0 ∧ k0 ≤ h.size ∧ Z.Warmed39 vm0 ∧ CHr Z EL K.s.vm K.s.heap vm0 h ∧ (∀ x ∈ W, x < h.size ∧ Safe Z EL vm0 h x) ∧ T.heap = h ∧ Fr Z.heap.size locs ∧ (nI = true → K.s.WarmedH vm0) ∧ Ext Z.heap h
def Go (Z : State) (EL : List (String × Nat)) (nI : Bool) (K : Kx) (Q : Option Value → Heap → Prop) (T : State) (g : JFrame) : Prop :=
  ∃ s₂ v L, Steps K.p.tables K.e K.bl (T.setTop g) s₂ ∧ s₂.status = .running ∧ Ended s₂ K.bl (.returned v) ∧ Q v s₂.heap ∧ Fr Z.heap.size L ∧ CHr Z EL K.s.vm K.s.heap s₂.vm s₂.heap ∧ ReturnedEndW K.s (.returned v) s₂ L K.R.cells K.R.slots ∧ (nI = true → K.s.WarmedH s₂.vm) ∧ Ext Z.heap s₂.heap
def Run (Z : State) (EL : List (String × Nat)) (nI : Bool) (K : Kx) (Q : Option Value → Heap → Prop) (W : List Addr) (h : Heap) (cl sl pc : Nat) (L : Array Slot) (S : List Value) : Prop :=
  ∀ T, St Z EL nI K W h cl sl T → Go Z EL nI K Q T (mkF K.m pc L S)
/-- what is known of the invocation -/
def Ok (Z : State) (EL : List (String × Nat)) (a0 : Array Value) (l : Launch) (own nm : String) (bytes : ByteArray) (ml : Nat) (ret : Option FieldType) (R : Room) (K : Kx) : Prop :=
  K.p.tables.exec = Jvm.exec ∧ K.l = l ∧ K.R = R ∧ K.c.code = bytes ∧ K.c.maxLocals = ml ∧ K.me.sig.returnType = ret ∧ K.me.locks = false ∧ K.me.name = nm ∧ K.s.vm.findClass own = some K.m.cls ∧ EW Z a0 EL
/-- a place that a walk may write -/
def Sf (Z : State) (EL : List (String × Nat)) (W : List Addr) (h : Heap) (a : Addr) : Prop := ∀ vm, Z.Warmed39 vm → (∀ x ∈ W, x < h.size ∧ Safe Z EL vm h x) → Safe Z EL vm h a
section Rules
variable {Z : State} {EL : List (String × Nat)} {nI : Bool} {a0 : Array Value} {l : Launch} {own nm : String} {bytes : ByteArray} {ml : Nat} {ret : Option FieldType} {R : Room} {K : Kx} {Q : Option Value → Heap → Prop} {W W' : List Addr} {h : Heap} {cl sl cl' sl' pc pc' : Nat} {L L' : Array Slot} {S S' : List Value} {a : Addr} {C : String} {ty : FieldType}
theorem sfW (hm : a ∈ W) : Sf Z EL W h a := fun _ _ q => (q a hm).2
theorem sfE (E : Exa Z h a C) (h1 : C ≠ "java/lang/String") (h2 : C ≠ "[B") : Sf Z EL W h a := fun _ hZ _ => Safe.exa hZ.alike E h1 h2
theorem sfA {k : ClassId} {z : Int32} {vs : List Value} {dv : Value} (A : Arv Z h a k ty z vs dv) (ht : ty ≠ .byte) : Sf Z EL W h a := fun _ hZ _ => Safe.arv hZ.alike A ht
theorem sfR {c : Cell} (A : Arr Z h a c ty) (ht : ty ≠ .byte) : Sf Z EL W h a := fun _ hZ _ => Safe.arr hZ.alike A ht
theorem sfN : Sf Z [] W h a := fun _ _ _ B => by obtain ⟨p, hp, -⟩ := B; cases hp
/-- fewer places -/
theorem Run.less (k : Run Z EL nI K Q W' h cl sl pc L S) (hs : ∀ x ∈ W', x ∈ W) : Run Z EL nI K Q W h cl sl pc L S := fun T X => by
  obtain ⟨vm0, k0, locs, X1, X2, X3, X4, X5, X6, X7⟩ := X
  exact k T ⟨vm0, k0, locs, X1, X2, X3, X4, X5, fun x hx => X6 x (hs x hx), X7⟩
/-- more room -/
theorem Run.mono (k : Run Z EL nI K Q W h cl' sl' pc L S) (h1 : cl ≤ cl') (h2 : sl ≤ sl') : Run Z EL nI K Q W h cl sl pc L S := fun T X => by
  obtain ⟨vm0, k0, locs, X1, X7⟩ := X
  exact k T ⟨vm0, k0, locs, X1.mono h1 h2, X7⟩
/-- nothing that stood at the start was written -/
theorem Run.old (k : Ext Z.heap h → Run Z EL nI K Q W h cl sl pc L S) : Run Z EL nI K Q W h cl sl pc L S := fun T X => by
  obtain ⟨vm0, k0, locs, X1, X2, X3, X4, X5, X6, X7, X8, X9, X10⟩ := id X
  exact k X10 T X
/-- a step that leaves the heap -/
theorem Run.same (hK : Ok Z EL a0 l own nm bytes ml ret R K)
    (f : ∀ T vm0 locs, Stand K.p K.l K.e K.R (K.s.setVm vm0) K.m K.as K.bl K.me K.c T locs cl sl → Z.Warmed39 (K.s.setVm vm0).vm → (K.s.setVm vm0).vm.findClass own = some K.m.cls → T.heap = h →
      ∃ T', Stand K.p K.l K.e K.R (K.s.setVm vm0) K.m K.as K.bl K.me K.c T' locs cl sl ∧ T'.heap = h ∧ ∀ t, Steps K.p.tables K.e K.bl (T'.setTop (mkF K.m pc' L' S')) t → Steps K.p.tables K.e K.bl (T.setTop (mkF K.m pc L S)) t)
    (k : Run Z EL nI K Q W h cl sl pc' L' S') : Run Z EL nI K Q W h cl sl pc L S := fun T X => by
  obtain ⟨vm0, k0, locs, X1, X2, X3, X4, X5, X6, X7, X8⟩ := X
  obtain ⟨T', Y, eY, st⟩ := f T vm0 locs X1 X4 (by rw [show (K.s.setVm vm0).vm = vm0 from rfl, X2.1.alike.findClass]; exact hK.2.2.2.2.2.2.2.2.1) X7
  obtain ⟨s2, v, Lo, g, r⟩ := k T' ⟨vm0, k0, locs, Y, X2, X3, X4, X5, X6, eY, X8⟩
  exact ⟨s2, v, Lo, st _ g, r⟩
/-- a step that moves frames alone -/
theorem Run.step (hK : Ok Z EL a0 l own nm bytes ml ret R K)
    (f : ∀ T, At T K.m K.c K.bl → ∀ t, Steps K.p.tables K.e K.bl (T.setTop (mkF K.m pc' L' S')) t → Steps K.p.tables K.e K.bl (T.setTop (mkF K.m pc L S)) t)
    (k : Run Z EL nI K Q W h cl sl pc' L' S') : Run Z EL nI K Q W h cl sl pc L S :=
  Run.same hK (fun T vm0 locs X _ _ e => ⟨T, X, e, f T X.here⟩) k
/-- a step that makes cells -/
theorem Run.grow (hK : Ok Z EL a0 l own nm bytes ml ret R K) {P : Heap → Prop}
    (f : ∀ T vm0 locs, Stand K.p K.l K.e K.R (K.s.setVm vm0) K.m K.as K.bl K.me K.c T locs cl sl → Z.Warmed39 (K.s.setVm vm0).vm → (K.s.setVm vm0).vm.findClass own = some K.m.cls → T.heap = h →
      ∃ T' h', Stand K.p K.l K.e K.R (K.s.setVm vm0) K.m K.as K.bl K.me K.c T' locs cl' sl' ∧ T'.heap = h' ∧ Ext h h' ∧ h.size < h'.size ∧ P h' ∧ ∀ t, Steps K.p.tables K.e K.bl (T'.setTop (mkF K.m pc' L' S')) t → Steps K.p.tables K.e K.bl (T.setTop (mkF K.m pc L S)) t)
    (k : ∀ h', Ext h h' → P h' → Run Z EL nI K Q (h.size :: W) h' cl' sl' pc' L' S') : Run Z EL nI K Q W h cl sl pc L S := fun T X => by
  obtain ⟨vm0, k0, locs, X1, X2, X3, X4, X5, X6, X7, X8, X9, X10⟩ := X
  obtain ⟨T', h', Y, eY, E, hsz, hP, st⟩ := f T vm0 locs X1 X4 (by rw [show (K.s.setVm vm0).vm = vm0 from rfl, X2.1.alike.findClass]; exact hK.2.2.2.2.2.2.2.2.1) X7
  obtain ⟨s2, v, Lo, g, r⟩ := k h' E hP T' ⟨vm0, k0, locs, Y, X2, Nat.le_trans X3 E.1, X4, X5.trans (CHr.ext E X5.1), fun x hx => by
    rcases List.mem_cons.mp hx with rfl | hx
    · exact ⟨hsz, Safe.ext E X5.1 (Safe.new (Nat.le_refl _))⟩
    · exact ⟨Nat.lt_of_lt_of_le (X6 x hx).1 E.1, Safe.ext E X5.1 (X6 x hx).2⟩, eY, X8, X9, Nat.le_trans X10.1 E.1, fun x c q => E.2 x c (X10.2 x c q)⟩
  exact ⟨s2, v, Lo, st _ g, r⟩
/-- a step that writes one place -/
theorem Run.write (hK : Ok Z EL a0 l own nm bytes ml ret R K) {i : Nat} {w : Value} (ha : Z.heap.size ≤ a) (hs : Sf Z EL W h a)
    (f : ∀ T vm0 locs, Stand K.p K.l K.e K.R (K.s.setVm vm0) K.m K.as K.bl K.me K.c T locs cl sl → Z.Warmed39 (K.s.setVm vm0).vm → (K.s.setVm vm0).vm.findClass own = some K.m.cls → T.heap = h →
      ∃ T' h', Stand K.p K.l K.e K.R (K.s.setVm vm0) K.m K.as K.bl K.me K.c T' (locs ++ [⟨a, i⟩]) cl sl ∧ T'.heap = h' ∧ Wr h h' a i w ∧ ∀ t, Steps K.p.tables K.e K.bl (T'.setTop (mkF K.m pc' L' S')) t → Steps K.p.tables K.e K.bl (T.setTop (mkF K.m pc L S)) t)
    (k : ∀ h', Wr h h' a i w → Run Z EL nI K Q W h' cl sl pc' L' S') : Run Z EL nI K Q W h cl sl pc L S := fun T X => by
  obtain ⟨vm0, k0, locs, X1, X2, X3, X4, X5, X6, X7, X8, X9, X10⟩ := X
  obtain ⟨T', h', Y, eY, Wt, st⟩ := f T vm0 locs X1 X4 (by rw [show (K.s.setVm vm0).vm = vm0 from rfl, X2.1.alike.findClass]; exact hK.2.2.2.2.2.2.2.2.1) X7
  have hsz := Wt.size
  have sa := hs vm0 X4 X6
  obtain ⟨s2, v, Lo, g, r⟩ := k h' Wt T' ⟨vm0, k0, _, Y, X2, hsz ▸ X3, X4, X5.trans (CHr.wr Wt sa X5.1), fun x hx => ⟨hsz ▸ (X6 x hx).1, Safe.wr Wt sa X5.1 (X6 x hx).2⟩, eY, Fr.snoc Y X8 ha, X9, (Old.wr (Z := Z) (n0 := Z.heap.size) ⟨rfl, X10⟩ Wt ha).2⟩
  exact ⟨s2, v, Lo, st _ g, r⟩
end Rules
/-- **A CALLEE, PAID**: whatever pays it -/
def Cal (Z : State) (EL : List (String × Nat)) (nI : Bool) (a0 : Array Value) (l : Launch) (R : Room) (y : MethodName) (len Wt : Nat) (as' : Array Value) (h : Heap) (W : List Addr) (kc ks : Nat) (Qy : Option Value → Heap → Prop) : Prop :=
  ∀ (p : Program) (e : Env) (bl : List Frame) (s : State) (as : Array Value) (vm0 : Vm), Z.Warmed39 vm0 → EW Z a0 EL → CHv Z EL vm0 h → (∀ x ∈ W, x < h.size ∧ Safe Z EL vm0 h x) → Ext Z.heap h →
    BackS l R p e bl (s.setVm vm0) as y len Wt (fun A a => a = as' ∧ A.U.heap = h ∧ A.cells + kc ≤ R.cells ∧ A.slots + ks ≤ R.slots)
      (fun A _ v B => ∃ Lo, Qy v B.U.heap ∧ Fr Z.heap.size Lo ∧ B.locs = A.locs ++ Lo ∧ B.cells = A.cells + kc ∧ B.slots = A.slots + ks ∧ CHr Z EL vm0 h B.U.vm B.U.heap ∧ (nI = true → (s.setVm vm0).WarmedH B.U.vm) ∧ Ext Z.heap B.U.heap)
/-- an own contract -/
def Ctr (Z : State) (EL : List (String × Nat)) (nI : Bool) (l : Launch) (ws : List Jvm.Cond) (y : MethodName) (bytes : ByteArray) (ml : Nat) (ret : Option FieldType) (rm : Room) (as' : Array Value) (h : Heap) (W : List Addr) (Qy : Option Value → Heap → Prop) : Prop :=
  MetFree l y (head1 (Jvm.Cond.code y bytes ml ret :: ws) rm) (fun a U => a = as' ∧ Z.Warmed39 U.vm ∧ U.heap = h ∧ CHv Z EL U.vm h ∧ (∀ x ∈ W, x < h.size ∧ Safe Z EL U.vm h x) ∧ Ext Z.heap h) (fun _ _ _ _ _ => True)
    (fun _ U o U' => ∃ v Lo, o = .returned v ∧ Qy v U'.heap ∧ Fr Z.heap.size Lo ∧ CHr Z EL U.vm U.heap U'.vm U'.heap ∧ ReturnedEndW U o U' Lo rm.cells rm.slots ∧ (nI = true → U.WarmedH U'.vm) ∧ Ext Z.heap U'.heap)
section Calls
variable {Z : State} {EL : List (String × Nat)} {nI : Bool} {a0 : Array Value} {l : Launch} {own nm : String} {bytes : ByteArray} {ml : Nat} {ret : Option FieldType} {R rm : Room} {K : Kx} {Q Qy : Option Value → Heap → Prop} {W W' : List Addr} {h : Heap} {cl sl pc len Wt kc ks : Nat} {L : Array Slot} {S rest argsL : List Value} {y z : MethodName} {as' : Array Value} {index : Nat}
theorem Ctr.of_run {L0 : Array Slot} {ws : List Jvm.Cond} (hpl : plainFor y = true) (hEL : EW Z a0 EL) (hent : argsToLocals as' ml = L0)
    (body : ∀ K, Ok Z EL a0 l y.cls y.name bytes ml ret rm K → Run Z EL nI K Qy W h 0 0 0 L0 []) : Ctr Z EL nI l ws y bytes ml ret rm as' h W Qy := by
  refine MetFree.of_bodySF (code := bytes) (maxLocals := ml) (ret := ret) hpl hisR ?_
  intro p e s m args below meth c s₁ Bd hml hP hK
  obtain ⟨rfl, hZ, hh, hC, hS, hO⟩ := hP
  subst hent
  have e0 : s₁.heap = h := by rw [← hh, Bd.state]; rfl
  obtain ⟨s2, v, Lo, g1, g2, g3, g4, g5, g6, g7, g8⟩ := body (p, l, e, rm, s, m, args, below, meth, c) ⟨Bd.exec, rfl, rfl, Bd.bytes, hml, Bd.returns, Bd.notSynchronized, (name_of_methodNamed Bd.named Bd.method).1, findClass_of_methodNamed Bd.named, hEL⟩ s₁
    ⟨s.vm, 0, [], Stand.of_body Bd, (State.WarmedH.refl s).since 0, Nat.zero_le _, hZ, by subst hh; exact CHr.refl hC, hS, e0, Fr.nil _, fun _ => State.WarmedH.refl s, hO⟩
  exact ⟨s2, _, g1, g2, g3, v, Lo, rfl, g4, g5, g6, g7, g8⟩
theorem Ctr.cal (hC : Ctr Z EL nI l [] y bytes ml ret rm as' h W Qy) (wc : (Jvm.Cond.code y bytes ml ret).before a0 Z = true) (wz : (Jvm.Cond.initialized y.cls).before a0 Z = true) (hf : rm.frames + 1 ≤ R.frames) (hl : Wt + (ml + 11) + rm.locals ≤ R.locals) :
    Cal Z EL nI a0 l R y len Wt as' h W rm.cells rm.slots Qy := fun p e bl s as vm0 hZ hEL H hS hO =>
  BackS.of_freeW (bytes := bytes) (maxL := ml) (ret := ret) (E := fun _ first o t Lo k n => k = rm.cells ∧ n = rm.slots ∧ (∃ v, o = .returned v ∧ Qy v t.heap) ∧ Fr Z.heap.size Lo ∧ CHr Z EL first.vm first.heap t.vm t.heap ∧ (nI = true → first.WarmedH t.vm) ∧ Ext Z.heap t.heap) hC hf hl
    (fun m meth c A a Y hp => have hU : Z.Warmed39 A.U.vm := wtrans (s := s.setVm vm0) hZ Y.warmed
      ⟨by show (Cond.and _ .tt).before a A.U = true; rw [Cond.before_and, mv hU wc]; rfl, mv hU wc, mv hU wz, hp.2.2.1, hp.2.2.2⟩)
    (fun m meth c A a g mk Y hp => have B := CHv.at Y hZ hEL H; ⟨hp.1, wtrans (s := s.setVm vm0) hZ Y.warmed, hp.2.1, B.1, fun x hx => ⟨(hS x hx).1, B.safe (hS x hx).1 (hS x hx).2⟩, hO⟩) (fun _ _ _ _ _ _ _ _ _ => trivial)
    (fun _ _ _ _ ⟨v, Lo, h1, h2, h3, h4, h5, h6⟩ => ⟨Lo, _, _, h5, rfl, rfl, ⟨v, h1, h2⟩, h3, h4, h6⟩)
    (fun m meth c A a g mk v t Lo k n Y hp _ _ ⟨e1, e2, ⟨v', e3, e4⟩, e5, e6, e7, e8⟩ => by
      cases e3; subst e1 e2
      refine ⟨Lo, e4, e5, rfl, rfl, rfl, (CHv.at Y hZ hEL H).trans ?_, fun q => State.WarmedH.trans Y.warmed (e7 q), e8⟩
      rw [← hp.2.1]; exact e6)
/-- a law of the library's or of a paste, that interns nothing -/
theorem Cal.of_back {Qz : Option Value → Heap → List Loc → Prop}
    (hB : ∀ (p : Program) (e : Env) (bl : List Frame) (s : State) (as : Array Value), Z.Warmed39 s.vm → Ext Z.heap h → Back l R p e bl s as y len Wt (fun A a => a = as' ∧ A.U.heap = h ∧ A.cells + kc ≤ R.cells ∧ A.slots + ks ≤ R.slots) (fun A _ v B => ∃ Lo, Qz v B.U.heap Lo ∧ B.locs = A.locs ++ Lo ∧ B.cells = A.cells + kc ∧ B.slots = A.slots + ks))
    (hQ : ∀ v h' Lo, Qz v h' Lo → Qy v h' ∧ Fr Z.heap.size Lo ∧ ∃ ws, Keep h h' ws ∧ ∀ x ∈ ws, Z.heap.size ≤ x ∧ Sf Z EL W h x) : Cal Z EL nI a0 l R y len Wt as' h W kc ks Qy := fun p e bl s as vm0 hZ hEL H hS hO => by
  intro m meth c A g ig mk a X hg hsize hdg hW hn hp
  obtain ⟨v, B, X', ⟨Lo, hq, e1, e2, e3⟩, hsteps⟩ := hB p e bl (s.setVm vm0) as hZ hO m meth c A g ig mk a X hg hsize hdg hW hn hp
  obtain ⟨q1, q2, ws, q3, q4⟩ := hQ _ _ _ hq
  have hs : ∀ x ∈ ws, Safe Z EL vm0 h x := fun x hx => (q4 x hx).2 vm0 hZ hS
  exact ⟨v, B, X'.retabled X'.warmed.wide, X'.warmed.since _, by rw [hp.2.1]; exact q3.1, ⟨Lo, q1, q2, e1, e2, e3, (CHr.keep q3 hs H).trans (CHv.at X' hZ hEL (H.keep q3 hs)), fun _ => X'.warmed, (Old.keep (Z := Z) (n0 := Z.heap.size) ⟨rfl, hO⟩ q3 (fun x hx => (q4 x hx).1)).2⟩, hsteps⟩
theorem Cal.more {kc' ks' : Nat} (hC : Cal Z EL nI a0 l R y len Wt as' h W kc ks Qy) (h1 : kc ≤ kc') (h2 : ks ≤ ks') : Cal Z EL nI a0 l R y len Wt as' h W kc' ks' Qy := fun p e bl s as vm0 hZ hEL H hS hO => by
  intro m meth c A g ig mk a X hg hsize hdg hW hn hp
  obtain ⟨v, B, X', q1, q2, ⟨Lo, r1, r2, r3, r4, r5, r6⟩, st⟩ := hC p e bl s as vm0 hZ hEL H hS hO m meth c A g ig mk a X hg hsize hdg hW hn ⟨hp.1, hp.2.1, by have := hp.2.2.1; omega, by have := hp.2.2.2; omega⟩
  exact ⟨v, ⟨B.U, B.locs, A.cells + kc', A.slots + ks'⟩, X'.mono (by show B.cells ≤ A.cells + kc'; rw [r4]; omega) (by show B.slots ≤ A.slots + ks'; rw [r5]; omega), q1, q2, ⟨Lo, r1, r2, r3, rfl, rfl, r6⟩, st⟩
theorem Cal.conseq {Qz : Option Value → Heap → Prop} (hC : Cal Z EL nI a0 l R y len Wt as' h W' kc ks Qy) (hs : ∀ x ∈ W', x ∈ W) (hq : ∀ v h', Qy v h' → Qz v h') : Cal Z EL nI a0 l R y len Wt as' h W kc ks Qz := fun p e bl s as vm0 hZ hEL H hS hO => by
  intro m meth c A g ig mk a X hg hsize hdg hW hn hp
  obtain ⟨v, B, X', q1, q2, ⟨Lo, r1, r⟩, st⟩ := hC p e bl s as vm0 hZ hEL H (fun x hx => hS x (hs x hx)) hO m meth c A g ig mk a X hg hsize hdg hW hn hp
  exact ⟨v, B, X', q1, q2, ⟨Lo, hq _ _ r1, r⟩, st⟩
/-- behind a call: the walk stands again -/
theorem St.back (hK : Ok Z EL a0 l own nm bytes ml ret R K) {vm0 : Vm} {k0 : Nat} {locs : List Loc} {v : Option Value} {B : Pt} (X2 : K.s.Since vm0 k0) (X3 : k0 ≤ h.size) (X4 : Z.Warmed39 vm0) (X5 : CHr Z EL K.s.vm K.s.heap vm0 h) (X6 : ∀ x ∈ W, x < h.size ∧ Safe Z EL vm0 h x) (X8 : Fr Z.heap.size locs) (X9 : nI = true → K.s.WarmedH vm0)
    (Y : Stand K.p K.l K.e K.R ((K.s.setVm vm0).setVm B.U.vm) K.m K.as K.bl K.me K.c B.U B.locs B.cells B.slots) (hS : (K.s.setVm vm0).Since B.U.vm B.U.heap.size) (hg : h.size ≤ B.U.heap.size)
    (hp : ∃ Lo, Qy v B.U.heap ∧ Fr Z.heap.size Lo ∧ B.locs = locs ++ Lo ∧ B.cells = cl + kc ∧ B.slots = sl + ks ∧ CHr Z EL vm0 h B.U.vm B.U.heap ∧ (nI = true → (K.s.setVm vm0).WarmedH B.U.vm) ∧ Ext Z.heap B.U.heap) :
    Qy v B.U.heap ∧ St Z EL nI K W B.U.heap (cl + kc) (sl + ks) B.U := by
  obtain ⟨Lo, h1, h2, h3, h4, h5, h6, h7, h8⟩ := hp
  rw [h3, h4, h5] at Y
  exact ⟨h1, B.U.vm, B.U.heap.size, _, Y, X2.trans hS (Nat.le_trans X3 hg), Nat.le_refl _, State.Warmed39.trans (t := K.s.setVm vm0) X4 hS.1, X5.trans h6, fun x hx => ⟨Nat.lt_of_lt_of_le (X6 x hx).1 hg, h6.safe (X6 x hx).1 (X6 x hx).2⟩, rfl, X8.app h2, fun q => State.WarmedH.trans (X9 q) (h7 q), h8⟩
theorem Ok.fc (hK : Ok Z EL a0 l own nm bytes ml ret R K) {vm0 : Vm} {k0 : Nat} (X2 : K.s.Since vm0 k0) : (K.s.setVm vm0).vm.findClass own = some K.m.cls := by rw [show (K.s.setVm vm0).vm = vm0 from rfl, X2.1.alike.findClass]; exact hK.2.2.2.2.2.2.2.2.1
/-- invokestatic -/
theorem Run.static (hK : Ok Z EL a0 l own nm bytes ml ret R K) {by' : ByteArray} {ml' : Nat} {ret' : Option FieldType} (w1 : (Jvm.Cond.methodLink own index y).before a0 Z = true) (w2 : (Jvm.Cond.static y).before a0 Z = true) (w3 : (Jvm.Cond.initialized y.cls).before a0 Z = true) (w4 : (Jvm.Cond.code y by' ml' ret').before a0 Z = true)
    (hy : y.cls ≠ "java/lang/invoke/MethodHandle" ∧ y.cls ≠ "java/lang/invoke/VarHandle") (hsub : ∀ x ∈ W', x ∈ W) (hC : Cal Z EL nI a0 l R y 3 Wt argsL.toArray h W' kc ks Qy) (hsz : L.size = ml)
    (hlen : ∀ sig, parseMethodDescriptor y.desc = some sig → argsL.length = sig.parameters.length) (hst : S = argsL.reverse ++ rest) (hW : (rest.map fun v => v.category).sum ≤ Wt) (hd : decode bytes pc = .ok (.invokestatic index, 3)) (hc : cl + kc ≤ R.cells) (hs : sl + ks ≤ R.slots)
    (k : ∀ v h', Qy v h' → h.size ≤ h'.size → Run Z EL nI K Q W h' (cl + kc) (sl + ks) (pc + 3) L (v.toList ++ rest)) : Run Z EL nI K Q W h cl sl pc L S := fun T X => by
  obtain ⟨vm0, k0, locs, X1, X2, X3, X4, X5, X6, X7, X8, X9, X10⟩ := X
  have hown := hK.fc X2
  obtain ⟨hx, rfl, rfl, rfl, rfl, -, -, -, -, hEL⟩ := id hK
  have hZ : Z.Warmed39 (K.s.setVm vm0).vm := X4
  subst hst
  obtain ⟨v, vm1, B, -, Y, hS, hg, hp, st⟩ := callSS X1 hx (y := y) hown (mvT hZ w1) (mvT hZ w2) (mvT hZ w3) (mvT hZ w4) hy (hC K.p K.e K.bl K.s K.as vm0 X4 hEL X5.1 (fun x hx => X6 x (hsub x hx)) X10) (g := mkF K.m pc L (argsL.reverse ++ rest)) rfl hsz (argsL := argsL) (rest := rest) hlen rfl (by show 2 * 0 + _ ≤ _; omega) hd (fun _ _ => ⟨rfl, X7, hc, hs⟩)
  rw [X7] at hg
  obtain ⟨hq, Y'⟩ := St.back hK X2 X3 X4 X5 X6 X8 X9 Y hS hg hp
  obtain ⟨s2, v', Lo, g, r⟩ := k v _ hq hg B.U Y'
  exact ⟨s2, v', Lo, st.trans g, r⟩
/-- invokespecial of a constructor -/
theorem Run.special (hK : Ok Z EL a0 l own nm bytes ml ret R K) {by' : ByteArray} {ml' : Nat} (hy1 : y.name = "<init>") (w1 : (Jvm.Cond.methodLink own index y).before a0 Z = true) (w2 : (Jvm.Cond.instanceMethod y).before a0 Z = true) (w4 : (Jvm.Cond.code y by' ml' none).before a0 Z = true)
    (hy : y.cls ≠ "java/lang/invoke/MethodHandle" ∧ y.cls ≠ "java/lang/invoke/VarHandle") {a : Addr} (hsub : ∀ x ∈ W', x ∈ W) (hC : Cal Z EL nI a0 l R y 3 Wt (.ref a :: argsL).toArray h W' kc ks Qy) (hsz : L.size = ml)
    (hlen : ∀ sig, parseMethodDescriptor y.desc = some sig → argsL.length = sig.parameters.length) (hst : S = argsL.reverse ++ .ref a :: rest) (hW : (rest.map fun v => v.category).sum ≤ Wt) (hd : decode bytes pc = .ok (.invokespecial index, 3)) (hc : cl + kc ≤ R.cells) (hs : sl + ks ≤ R.slots)
    (k : ∀ v h', Qy v h' → h.size ≤ h'.size → Run Z EL nI K Q W h' (cl + kc) (sl + ks) (pc + 3) L (v.toList ++ rest)) : Run Z EL nI K Q W h cl sl pc L S := fun T X => by
  obtain ⟨vm0, k0, locs, X1, X2, X3, X4, X5, X6, X7, X8, X9, X10⟩ := X
  have hown := hK.fc X2
  obtain ⟨hx, rfl, rfl, rfl, rfl, -, -, -, -, hEL⟩ := id hK
  have hZ : Z.Warmed39 (K.s.setVm vm0).vm := X4
  subst hst
  obtain ⟨v, vm1, B, -, Y, hS, hg, hp, st⟩ := X1.specialBackS hx (y := y) hy1 hown (mvT hZ w1) (mvT hZ w2) (mvT hZ w4) hy (hC K.p K.e K.bl K.s K.as vm0 X4 hEL X5.1 (fun x hx => X6 x (hsub x hx)) X10) (g := mkF K.m pc L (argsL.reverse ++ .ref a :: rest)) rfl hsz (Steps.refl _) (a := a) (argsL := argsL) (rest := rest) hlen rfl (by show 2 * 0 + _ ≤ _; omega) hd (fun _ _ => ⟨rfl, X7, hc, hs⟩)
  rw [X7] at hg
  obtain ⟨hq, Y'⟩ := St.back hK X2 X3 X4 X5 X6 X8 X9 Y hS hg hp
  obtain ⟨s2, v', Lo, g, r⟩ := k v _ hq hg B.U Y'
  exact ⟨s2, v', Lo, st.trans g, r⟩
/-- invokevirtual, the object exactly of class C -/
theorem Run.virtual (hK : Ok Z EL a0 l own nm bytes ml ret R K) {C : String} (w1 : (Jvm.Cond.methodLink own index y).before a0 Z = true) (w2 : (Jvm.Cond.declares y).before a0 Z = true) (hnf : ∀ s : State, Z.Warmed39 s.vm → NotFace s y) (w3 : (Jvm.Cond.selects C y z).before a0 Z = true) (w4 : (Jvm.Cond.instanceMethod z).before a0 Z = true)
    (hy : y.cls ≠ "java/lang/invoke/MethodHandle" ∧ y.cls ≠ "java/lang/invoke/VarHandle") {a : Addr} (E : Exa Z h a C) (hsub : ∀ x ∈ W', x ∈ W) (hC : Cal Z EL nI a0 l R z 3 Wt (.ref a :: argsL).toArray h W' kc ks Qy) (hsz : L.size = ml)
    (hlen : ∀ sig, parseMethodDescriptor y.desc = some sig → argsL.length = sig.parameters.length) (hst : S = argsL.reverse ++ .ref a :: rest) (hW : (rest.map fun v => v.category).sum ≤ Wt) (hd : decode bytes pc = .ok (.invokevirtual index, 3)) (hc : cl + kc ≤ R.cells) (hs : sl + ks ≤ R.slots)
    (k : ∀ v h', Qy v h' → h.size ≤ h'.size → Run Z EL nI K Q W h' (cl + kc) (sl + ks) (pc + 3) L (v.toList ++ rest)) : Run Z EL nI K Q W h cl sl pc L S := fun T X => by
  obtain ⟨vm0, k0, locs, X1, X2, X3, X4, X5, X6, X7, X8, X9, X10⟩ := X
  have hown := hK.fc X2
  obtain ⟨hx, rfl, rfl, rfl, rfl, -, -, -, -, hEL⟩ := id hK
  have hZ : Z.Warmed39 (K.s.setVm vm0).vm := X4
  subst hst
  obtain ⟨cq, kq, qa, qb, qc⟩ := isOf hZ X7 E
  obtain ⟨v, vm1, B, -, Y, hS, hg, hp, st⟩ := X1.virtualBackS hx (y := y) (z := z) hown (mvT hZ w1) (mvT hZ w2) (hnf _ hZ) (mvT hZ w3) (mvT hZ w4) hy (hC K.p K.e K.bl K.s K.as vm0 X4 hEL X5.1 (fun x hx => X6 x (hsub x hx)) X10) qa qc (g := mkF K.m pc L (argsL.reverse ++ .ref a :: rest)) rfl hsz (Steps.refl _) (argsL := argsL) (rest := rest) hlen rfl (by show 2 * 0 + _ ≤ _; omega) hd (fun _ _ => ⟨rfl, X7, hc, hs⟩)
  rw [X7] at hg
  obtain ⟨hq, Y'⟩ := St.back hK X2 X3 X4 X5 X6 X8 X9 Y hS hg hp
  obtain ⟨s2, v', Lo, g, r⟩ := k v _ hq hg B.U Y'
  exact ⟨s2, v', Lo, st.trans g, r⟩
/-- invokevirtual of a private method of an ordinary class -/
theorem Run.privat (hK : Ok Z EL a0 l own nm bytes ml ret R K) {by' : ByteArray} {ml' n' : Nat} {ret' : Option FieldType} {C : String} (w1 : (Jvm.Cond.methodLink own index y).before a0 Z = true) (w2 : (Jvm.Cond.instanceMethod y).before a0 Z = true) (w3 : (Jvm.Cond.instantiable y.cls n').before a0 Z = true) (w5 : (Jvm.Cond.privateMethod y).before a0 Z = true) (w4 : (Jvm.Cond.code y by' ml' ret').before a0 Z = true)
    (hy : y.cls ≠ "java/lang/invoke/MethodHandle" ∧ y.cls ≠ "java/lang/invoke/VarHandle") {a : Addr} (E : Exa Z h a C) (hsub : ∀ x ∈ W', x ∈ W) (hC : Cal Z EL nI a0 l R y 3 Wt (.ref a :: argsL).toArray h W' kc ks Qy) (hsz : L.size = ml)
    (hlen : ∀ sig, parseMethodDescriptor y.desc = some sig → argsL.length = sig.parameters.length) (hst : S = argsL.reverse ++ .ref a :: rest) (hW : (rest.map fun v => v.category).sum ≤ Wt) (hd : decode bytes pc = .ok (.invokevirtual index, 3)) (hc : cl + kc ≤ R.cells) (hs : sl + ks ≤ R.slots)
    (k : ∀ v h', Qy v h' → h.size ≤ h'.size → Run Z EL nI K Q W h' (cl + kc) (sl + ks) (pc + 3) L (v.toList ++ rest)) : Run Z EL nI K Q W h cl sl pc L S := fun T X => by
  obtain ⟨vm0, k0, locs, X1, X2, X3, X4, X5, X6, X7, X8, X9, X10⟩ := X
  have hown := hK.fc X2
  obtain ⟨hx, rfl, rfl, rfl, rfl, -, -, -, -, hEL⟩ := id hK
  have hZ : Z.Warmed39 (K.s.setVm vm0).vm := X4
  subst hst
  obtain ⟨cq, q1, q2⟩ := E.cell
  obtain ⟨mk, me, hn, hm, hst', hab⟩ := Cond.instanceMethod_spec (mvT (args := K.as) hZ w2)
  obtain ⟨me', cM, hm', -, -, -, -, -, -, hsig⟩ := Cond.code_spec hn (mvT (args := K.as) hZ w4)
  cases hm.symm.trans hm'
  obtain ⟨ci, ki, i1, i2, -, i4, -⟩ := Cond.instantiable_spec (mvT (args := K.as) hZ w3)
  obtain rfl : ci = mk.cls := Option.some.inj (i1.symm.trans (findClass_of_methodNamed hn))
  have i5 : ki.isInterface = false := by cases q : ki.isInterface <;> simp [q] at i4 ⊢
  have hsel : selectMethod K.e.platform (K.s.setVm vm0).vm cq.cls mk = .method mk := selectMethod_private hm (Cond.privateMethod_at (mvP hZ w5 (args := #[])) mk me hn hm)
  obtain ⟨vm1, Y1, st1⟩ := X1.invokevirtual hx hown (mvT hZ w1) hn hm hst' i2 i5 hy (a := a) (cell := cq) (by rw [X7]; exact q1) q2 hsel hm hab i2 i5 (g := mkF K.m pc L (argsL.reverse ++ .ref a :: rest)) rfl (argsL := argsL) (rest := rest) (hlen _ hsig) rfl hd
  obtain ⟨v, B, Y, hS, hg, hp, st2⟩ := hC K.p K.e K.bl K.s K.as vm0 X4 hEL X5.1 (fun x hx => X6 x (hsub x hx)) X10 K.m K.me K.c ⟨T.setVm vm1, locs, cl, sl⟩ (mkF K.m pc L rest) (.invokevirtual index) mk (.ref a :: argsL).toArray Y1 rfl hsz hd (by show 2 * 0 + (rest.map fun v => v.category).sum ≤ Wt; omega) (Y1.named hn) ⟨rfl, X7, hc, hs⟩
  replace hg : h.size ≤ B.U.heap.size := by rw [← X7]; exact hg
  obtain ⟨hq, Y'⟩ := St.back hK X2 X3 X4 X5 X6 X8 X9 Y hS hg hp
  obtain ⟨s2, v', Lo, g, r⟩ := k v _ hq hg B.U Y'
  exact ⟨s2, v', Lo, st1 _ fun acts => by rw [doInvoke_state]; exact st2.trans g, r⟩
theorem nfS {C : String} (w3 : (Jvm.Cond.selects C y y).before a0 Z = true) : ∀ s : State, Z.Warmed39 s.vm → NotFace s y := fun s hZ => notFace_of_selects (args := #[]) (mvT hZ w3)
end Calls
section Single
variable {Z : State} {EL : List (String × Nat)} {nI : Bool} {a0 : Array Value} {l : Launch} {own nm : String} {bytes : ByteArray} {ml : Nat} {ret : Option FieldType} {R : Room} {K : Kx} {Q : Option Value → Heap → Prop} {W : List Addr} {h : Heap} {cl sl pc pc' index : Nat} {L L' : Array Slot} {S rest : List Value} {a : Addr} {C : String} {ty : FieldType}
theorem Run.new (hK : Ok Z EL a0 l own nm bytes ml ret R K) {n : Nat} (w : (Jvm.Cond.classLink own index C).before a0 Z = true) (wi : (Jvm.Cond.instantiable C n).before a0 Z = true) (wz : (Jvm.Cond.initialized C).before a0 Z = true) (hd : decode bytes pc = .ok (.new index, 3)) (hc : cl + 1 ≤ R.cells) (hl : sl + n ≤ R.slots)
    (k : ∀ h', Ext h h' → Exa Z h' h.size C → (∀ {O f d : String} {ty : FieldType}, Laid Z a0 C O f d → parseFieldDescriptor d = some ty → Fld Z h' h.size O f d (defaultValue ty)) → Run Z EL nI K Q (h.size :: W) h' (cl + 1) (sl + n) (pc + 3) L (.ref h.size :: S)) : Run Z EL nI K Q W h cl sl pc L S := by
  obtain ⟨hx, rfl, rfl, rfl, rfl, -⟩ := id hK
  refine Run.grow hK (P := fun h' => Exa Z h' h.size C ∧ (∀ {O f d : String} {ty : FieldType}, Laid Z a0 C O f d → parseFieldDescriptor d = some ty → Fld Z h' h.size O f d (defaultValue ty))) (fun T vm0 locs X hZ hown e => ?_) (fun h' E P => k h' E P.1 P.2)
  obtain ⟨T', h', X', e', E', A', D', -, st⟩ := newO X hx hZ hown w wi wz e (g := mkF K.m pc L S) rfl hd hc hl
  exact ⟨T', h', X', e', E', A'.lt, ⟨A', D'⟩, st⟩
theorem Run.newarr (hK : Ok Z EL a0 l own nm bytes ml ret R K) {aty : ArrayType} (w : (Jvm.Cond.arrayClass (newarray.typeOf aty)).before a0 Z = true) {n : Int32} (hd : decode bytes pc = .ok (.newarray aty, 2)) (hn : ¬ n < 0) {cap : Nat} (hcap : n.toNatClampNeg ≤ cap) (hb : cap * 8 ≤ 536870912) (hc : cl + 1 ≤ R.cells) (hl : sl + cap ≤ R.slots)
    (k : ∀ h' cA, Ext h h' → Arv Z h' h.size cA (newarray.typeOf aty) n [] (defaultValue (newarray.typeOf aty)) → Run Z EL nI K Q (h.size :: W) h' (cl + 1) (sl + cap) (pc + 2) L (.ref h.size :: rest)) : Run Z EL nI K Q W h cl sl pc L (.int n :: rest) := by
  obtain ⟨hx, rfl, rfl, rfl, rfl, -⟩ := id hK
  refine Run.grow hK (P := fun h' => ∃ cA, Arv Z h' h.size cA (newarray.typeOf aty) n [] (defaultValue (newarray.typeOf aty))) (fun T vm0 locs X hZ hown e => ?_) (fun h' E ⟨cA, P⟩ => k h' cA E P)
  obtain ⟨T', h', cA, X', e', E', A', st⟩ := newP X hx hZ w e (g := mkF K.m pc L (.int n :: rest)) rfl hd rfl hn hcap hb hc hl
  exact ⟨T', h', X', e', E', A'.lt, ⟨cA, Arv.new A' hn⟩, st⟩
theorem Run.getf (hK : Ok Z EL a0 l own nm bytes ml ret R K) {R0 O n d host : String} (w : (Jvm.Cond.fieldLink own index R0 n d).before a0 Z = true ∨ (Jvm.Cond.fieldLinkNest own index R0 n d host).before a0 Z = true) (via : Via Z R0 O n d) {v : Value} (F : Fld Z h a O n d v) (hd : decode bytes pc = .ok (.getfield index, 3))
    (k : Run Z EL nI K Q W h cl sl (pc + 3) L (v :: rest)) : Run Z EL nI K Q W h cl sl pc L (.ref a :: rest) := by
  obtain ⟨hx, rfl, rfl, rfl, rfl, -⟩ := id hK
  refine Run.same hK (fun T vm0 locs X hZ hown e => ?_) k
  exact getF X hx hZ hown w via e F (g := mkF K.m pc L (.ref a :: rest)) rfl rfl hd
theorem Run.gets (hK : Ok Z EL a0 l own nm bytes ml ret R K) {R0 O n d : String} (w : (Jvm.Cond.fieldLink own index R0 n d).before a0 Z = true) (via : Via Z R0 O n d) {v : Value} (F : Sta Z h O n d v) (hd : decode bytes pc = .ok (.getstatic index, 3))
    (k : Run Z EL nI K Q W h cl sl (pc + 3) L (v :: S)) : Run Z EL nI K Q W h cl sl pc L S := by
  obtain ⟨hx, rfl, rfl, rfl, rfl, -⟩ := id hK
  refine Run.same hK (fun T vm0 locs X hZ hown e => ?_) k
  exact getS (host := "") X hx hZ hown w via e F (g := mkF K.m pc L S) rfl hd
theorem Run.putf (hK : Ok Z EL a0 l own nm bytes ml ret R K) {R0 O n d host : String} {kk : Nat} (w : (Jvm.Cond.fieldLink own index R0 n d).before a0 Z = true ∨ (Jvm.Cond.fieldLinkNest own index R0 n d host).before a0 Z = true) (via : Via Z R0 O n d) {v old : Value} (F : Fld Z h a O n d old) (E : Exa Z h a C)
    (Lf : (Jvm.Cond.lays C O n d).before a0 Z = true ∨ ((Jvm.Cond.laysFinal C O n d).before a0 Z = true ∧ own = O ∧ nm = "<init>")) (wi : (Jvm.Cond.instantiable C kk).before a0 Z = true) (hty : parseFieldDescriptor d = some ty) (hn : narrow ty v = v) (hf : fits ty v = true) (ha : Z.heap.size ≤ a) (hs : Sf Z EL W h a) (hd : decode bytes pc = .ok (.putfield index, 3))
    (k : ∀ h', Wr h h' a (Jvm.RoadKit.slotOf Z O n d) v → Run Z EL nI K Q W h' cl sl (pc + 3) L rest) : Run Z EL nI K Q W h cl sl pc L (v :: .ref a :: rest) := by
  obtain ⟨hx, rfl, rfl, rfl, rfl, -, -, hnm, -⟩ := id hK
  refine Run.write hK ha hs (fun T vm0 locs X hZ hown e => ?_) k
  exact putF X hx hZ hown w via e F E (Lf.imp id fun q => ⟨q.1, q.2.1, hnm.trans q.2.2⟩) wi hty hn hf (g := mkF K.m pc L (v :: .ref a :: rest)) rfl rfl hd
theorem Run.initobj (hK : Ok Z EL a0 l own nm bytes ml ret R K) (w1 : (Jvm.Cond.methodLink own index Lib.objectInit).before a0 Z = true) (w2 : (Jvm.Cond.instanceMethod Lib.objectInit).before a0 Z = true) (w3 : (Jvm.Cond.code Lib.objectInit ⟨#[0xb1]⟩ 1 none).before a0 Z = true) (hsz : L.size = ml) (hd : decode bytes pc = .ok (.invokespecial index, 3))
    (hf : 1 ≤ R.frames) {Wt : Nat} (hW : (rest.map fun v => v.category).sum ≤ Wt) (hl : Wt + 12 ≤ R.locals) (k : Run Z EL nI K Q W h cl sl (pc + 3) L rest) : Run Z EL nI K Q W h cl sl pc L (.ref a :: rest) := by
  obtain ⟨hx, rfl, rfl, rfl, rfl, -⟩ := id hK
  refine Run.same hK (fun T vm0 locs X hZ hown e => ?_) k
  exact initO X hx hZ hown w1 w2 w3 e (g := mkF K.m pc L (.ref a :: rest)) rfl hsz rfl hd hf (W := Wt) (by show 2 * 0 + _ ≤ _; omega) hl
theorem Run.ldci (hK : Ok Z EL a0 l own nm bytes ml ret R K) {v : Int32} (w : (Jvm.Cond.constant own index v).before a0 Z = true) (hd : decode bytes pc = .ok (.ldc index, 2)) (k : Run Z EL nI K Q W h cl sl (pc + 2) L (.int v :: S)) : Run Z EL nI K Q W h cl sl pc L S := by
  obtain ⟨hx, rfl, rfl, rfl, rfl, -⟩ := id hK
  refine Run.same hK (fun T vm0 locs X hZ hown e => ⟨T, X, e, ?_⟩) k
  exact X.ldcInt hx hown (mvT hZ w) (g := mkF K.m pc L S) rfl hd
theorem Run.ldcl (hK : Ok Z EL a0 l own nm bytes ml ret R K) {v : Int64} (w : (Jvm.Cond.constantLong own index v).before a0 Z = true) (hd : decode bytes pc = .ok (.ldc2_w index, 3)) (k : Run Z EL nI K Q W h cl sl (pc + 3) L (.long v :: S)) : Run Z EL nI K Q W h cl sl pc L S := by
  obtain ⟨hx, rfl, rfl, rfl, rfl, -⟩ := id hK
  refine Run.same hK (fun T vm0 locs X hZ hown e => ⟨T, X, e, ?_⟩) k
  exact X.ldc2Long hx hown (mvT hZ w) (g := mkF K.m pc L S) rfl hd
theorem Run.alen (hK : Ok Z EL a0 l own nm bytes ml ret R K) {k0 : ClassId} {z : Int32} {vs : List Value} {dv : Value} (A : Arv Z h a k0 ty z vs dv) (hd : decode bytes pc = .ok (.arraylength, 1)) (k : Run Z EL nI K Q W h cl sl (pc + 1) L (.int z :: rest)) : Run Z EL nI K Q W h cl sl pc L (.ref a :: rest) := by
  obtain ⟨hx, rfl, rfl, rfl, rfl, -⟩ := id hK
  obtain ⟨c0, A1, -, A3, A4, -⟩ := A
  refine Run.same hK (fun T vm0 locs X hZ hown e => ⟨T, X, e, fun t st => ?_⟩) k
  refine X.arraylength hx (by rw [e]; exact A1.1) (State.isArrayOf_alike hZ.alike A1.2.1) (g := mkF K.m pc L (.ref a :: rest)) rfl rfl hd _ ?_
  rw [len_of A3 A4]; exact st
/-- what lies at a place of an array -/
theorem arv_at {k0 : ClassId} {z : Int32} {vs : List Value} {dv : Value} (A : Arv Z h a k0 ty z vs dv) {j : Int32} (hj : ¬ j < 0 ∧ j < z) : ∃ c : Cell, Arr Z h a c ty ∧ ¬ (j < 0 ∨ c.slots.size ≤ j.toNatClampNeg) ∧ c.slots[j.toNatClampNeg]? = some (vs.getD j.toNatClampNeg dv) := by
  obtain ⟨c0, A1, -, A3, A4, A5, -⟩ := A
  have hin := inb_of A3 hj
  exact ⟨c0, A1, hin, A5 _ (Nat.lt_of_not_le fun q => hin (Or.inr q))⟩
theorem Run.ald (hK : Ok Z EL a0 l own nm bytes ml ret R K) {k0 : ClassId} {z : Int32} {vs : List Value} {dv v : Value} {j : Int32} {i : Instr} (A : Arv Z h a k0 ty z vs dv) (hi : (i = .caload ∧ ty = .char) ∨ (i = .iaload ∧ ty = .int) ∨ (i = .baload ∧ ty = .byte) ∨ (i = .laload ∧ ty = .long)) (hj : ¬ j < 0 ∧ j < z) (hv : vs.getD j.toNatClampNeg dv = v) (hd : decode bytes pc = .ok (i, 1))
    (k : Run Z EL nI K Q W h cl sl (pc + 1) L (v :: rest)) : Run Z EL nI K Q W h cl sl pc L (.int j :: .ref a :: rest) := by
  obtain ⟨hx, rfl, rfl, rfl, rfl, -⟩ := id hK
  obtain ⟨c0, A1, hin, hat⟩ := arv_at A hj
  rw [hv] at hat
  refine Run.same hK (fun T vm0 locs X hZ hown e => ⟨T, X, e, fun t st => ?_⟩) k
  have q1 : T.heap[a]? = some c0 := by rw [e]; exact A1.1
  have q2 := State.isArrayOf_alike hZ.alike A1.2.1
  rcases hi with ⟨rfl, rfl⟩ | ⟨rfl, rfl⟩ | ⟨rfl, rfl⟩ | ⟨rfl, rfl⟩
  · exact X.caload hx q1 q2 A1.2.2 hin hat (g := mkF K.m pc L (.int j :: .ref a :: rest)) rfl rfl hd _ st
  · exact X.iaload hx q1 q2 A1.2.2 hin hat (g := mkF K.m pc L (.int j :: .ref a :: rest)) rfl rfl hd _ st
  · exact X.baloadBytes hx q1 q2 A1.2.2 hin hat (g := mkF K.m pc L (.int j :: .ref a :: rest)) rfl rfl hd _ st
  · exact X.laload hx q1 q2 A1.2.2 hin hat (g := mkF K.m pc L (.int j :: .ref a :: rest)) rfl rfl hd _ st
theorem Run.aald (hK : Ok Z EL a0 l own nm bytes ml ret R K) {c0 : Cell} {j : Int32} {v : Value} (A : Arr Z h a c0 ty) (hty : ty.isReference = true) (hin : ¬ (j < 0 ∨ c0.slots.size ≤ j.toNatClampNeg)) (hat : c0.slots[j.toNatClampNeg]? = some v) (hd : decode bytes pc = .ok (.aaload, 1))
    (k : Run Z EL nI K Q W h cl sl (pc + 1) L (v :: rest)) : Run Z EL nI K Q W h cl sl pc L (.int j :: .ref a :: rest) := by
  obtain ⟨hx, rfl, rfl, rfl, rfl, -⟩ := id hK
  refine Run.same hK (fun T vm0 locs X hZ hown e => ⟨T, X, e, fun t st => ?_⟩) k
  exact X.aaload hx (by rw [e]; exact A.1) (State.isArrayOf_alike hZ.alike A.2.1) hty A.2.2 hin hat (g := mkF K.m pc L (.int j :: .ref a :: rest)) rfl rfl hd _ st
/-- an array's value list, a place written: the list is padded where it was short -/
def setv (vs : List Value) (n i : Nat) (dv v : Value) : List Value := (vs ++ List.replicate (n - vs.length) dv).set i v
theorem arv_set {k0 : ClassId} {z : Int32} {vs : List Value} {dv v : Value} (A : Arv Z h a k0 ty z vs dv) {j : Int32} (hj : ¬ j < 0 ∧ j < z) (hv : fits ty v = true) {h' : Heap} (Wt : Wr h h' a j.toNatClampNeg v) : Arv Z h' a k0 ty z (setv vs z.toNatClampNeg j.toNatClampNeg dv v) dv := by
  obtain ⟨c0, A1, A2, A3, A4, A5, A6⟩ := A.pad (pad_rep vs dv (z.toNatClampNeg - vs.length))
  have hin := inb_of A3 hj
  have hlt : j.toNatClampNeg < z.toNatClampNeg := by rw [← A3]; exact Nat.lt_of_not_le fun q => hin (Or.inr q)
  refine Arv.set A1 A2 A3 A4 A5 A6 hv Wt _ rfl ?_
  simp only [List.length_append, List.length_replicate]; omega
theorem Run.cst (hK : Ok Z EL a0 l own nm bytes ml ret R K) {k0 : ClassId} {z : Int32} {vs : List Value} {dv : Value} {j x : Int32} (A : Arv Z h a k0 .char z vs dv) (hj : ¬ j < 0 ∧ j < z) (ha : Z.heap.size ≤ a) (hd : decode bytes pc = .ok (.castore, 1))
    (k : ∀ h', Wr h h' a j.toNatClampNeg (.int (nar .char x)) → Arv Z h' a k0 .char z (setv vs z.toNatClampNeg j.toNatClampNeg dv (.int (nar .char x))) dv → Run Z EL nI K Q W h' cl sl (pc + 1) L rest) : Run Z EL nI K Q W h cl sl pc L (.int x :: .int j :: .ref a :: rest) := by
  obtain ⟨hx, rfl, rfl, rfl, rfl, -⟩ := id hK
  obtain ⟨c0, A1, hin, hat⟩ := arv_at A hj
  refine Run.write hK ha (sfA A (by decide)) (fun T vm0 locs X hZ hown e => ?_) (fun h' Wt => k h' Wt (arv_set A hj (fits_nar_char x) Wt))
  exact stC X hx hZ e A1 hin (g := mkF K.m pc L (.int x :: .int j :: .ref a :: rest)) rfl rfl hd
theorem Run.ist (hK : Ok Z EL a0 l own nm bytes ml ret R K) {k0 : ClassId} {z : Int32} {vs : List Value} {dv : Value} {j x : Int32} (A : Arv Z h a k0 .int z vs dv) (hj : ¬ j < 0 ∧ j < z) (ha : Z.heap.size ≤ a) (hd : decode bytes pc = .ok (.iastore, 1))
    (k : ∀ h', Wr h h' a j.toNatClampNeg (.int x) → Arv Z h' a k0 .int z (setv vs z.toNatClampNeg j.toNatClampNeg dv (.int x)) dv → Run Z EL nI K Q W h' cl sl (pc + 1) L rest) : Run Z EL nI K Q W h cl sl pc L (.int x :: .int j :: .ref a :: rest) := by
  obtain ⟨hx, rfl, rfl, rfl, rfl, -⟩ := id hK
  obtain ⟨c0, A1, hin, hat⟩ := arv_at A hj
  refine Run.write hK ha (sfA A (by decide)) (fun T vm0 locs X hZ hown e => ?_) (fun h' Wt => k h' Wt (arv_set A hj rfl Wt))
  exact stI X hx hZ e A1 hin (g := mkF K.m pc L (.int x :: .int j :: .ref a :: rest)) rfl rfl hd
theorem Run.lst (hK : Ok Z EL a0 l own nm bytes ml ret R K) {k0 : ClassId} {z : Int32} {vs : List Value} {dv : Value} {j : Int32} {x : Int64} (A : Arv Z h a k0 .long z vs dv) (hj : ¬ j < 0 ∧ j < z) (ha : Z.heap.size ≤ a) (hd : decode bytes pc = .ok (.lastore, 1))
    (k : ∀ h', Wr h h' a j.toNatClampNeg (.long x) → Arv Z h' a k0 .long z (setv vs z.toNatClampNeg j.toNatClampNeg dv (.long x)) dv → Run Z EL nI K Q W h' cl sl (pc + 1) L rest) : Run Z EL nI K Q W h cl sl pc L (.long x :: .int j :: .ref a :: rest) := by
  obtain ⟨hx, rfl, rfl, rfl, rfl, -⟩ := id hK
  obtain ⟨c0, A1, hin, hat⟩ := arv_at A hj
  refine Run.write hK ha (sfA A (by decide)) (fun T vm0 locs X hZ hown e => ?_) (fun h' Wt => k h' Wt (arv_set A hj rfl Wt))
  exact stJ X hx hZ e A1 hin (g := mkF K.m pc L (.long x :: .int j :: .ref a :: rest)) rfl rfl hd
theorem Run.bst (hK : Ok Z EL a0 l own nm bytes ml ret R K) {k0 : ClassId} {z : Int32} {vs : List Value} {dv : Value} {j x : Int32} (A : Arv Z h a k0 .byte z vs dv) (hj : ¬ j < 0 ∧ j < z) (ha : Z.heap.size ≤ a) (hs : Sf Z EL W h a) (hd : decode bytes pc = .ok (.bastore, 1))
    (k : ∀ h', Wr h h' a j.toNatClampNeg (.int (nar .byte x)) → Arv Z h' a k0 .byte z (setv vs z.toNatClampNeg j.toNatClampNeg dv (.int (nar .byte x))) dv → Run Z EL nI K Q W h' cl sl (pc + 1) L rest) : Run Z EL nI K Q W h cl sl pc L (.int x :: .int j :: .ref a :: rest) := by
  obtain ⟨hx, rfl, rfl, rfl, rfl, -⟩ := id hK
  obtain ⟨c0, A1, hin, hat⟩ := arv_at A hj
  refine Run.write hK ha hs (fun T vm0 locs X hZ hown e => ?_) (fun h' Wt => k h' Wt (arv_set A hj (fits_nar_byte x) Wt))
  exact stB X hx hZ e A1 hin (g := mkF K.m pc L (.int x :: .int j :: .ref a :: rest)) rfl rfl hd
/-- ldc of a String constant of EL -/
theorem Run.ldcs (hK : Ok Z EL a0 l own nm bytes ml ret R K) (hnI : nI = false) {text : String} (w : (Jvm.Cond.stringLink own index text).before a0 Z = true) (wS : ∀ d ∈ Bundle.stringAtoms, d.before a0 Z = true) (hmem : (own, index) ∈ EL)
    {vs : List Value} {z : Int32} (ht : (∀ c ∈ text.toList, c.toNat < 256) ∧ text.toList.map (fun c => Value.int (Jvm.Lit.byteI c.toNat.toUInt16)) = vs) (hz : ¬ z < 0) (hzl : z.toNatClampNeg = vs.length) (hd : decode bytes pc = .ok (.ldc index, 2)) {n : Nat} (hn : 4 * text.toList.length ≤ n) (hbig : n ≤ 536870912) (hc : cl + 2 ≤ R.cells) (hl : sl + (n + 4) ≤ R.slots)
    (k : ∀ (h' : Heap) (x b : Addr) (kb : ClassId), Ext h h' → Exa Z h' x "java/lang/String" → Fld Z h' x "java/lang/String" "coder" "B" (.int 0) → Fld Z h' x "java/lang/String" "value" "[B" (.ref b) → Arv Z h' b kb .byte z vs (.int 0) → Run Z EL nI K Q W h' (cl + 2) (sl + (n + 4)) (pc + 2) L (.ref x :: S)) : Run Z EL nI K Q W h cl sl pc L S := fun T X => by
  obtain ⟨vm0, k0, locs, X1, X2, X3, X4, X5, X6, X7, X8, X9, X10⟩ := X
  have hown := hK.fc X2
  obtain ⟨hx, rfl, rfl, rfl, rfl, -, -, -, -, hEL⟩ := id hK
  obtain ⟨x, T', h', k1, b, kb, Y, eY, E, hS, hk1, hZ', -, f1, f2, f3, f4, f5, f6, hC, -, -, st⟩ := ldcCH X1 hx X4 hown w wS X7 X2 X3 hEL hmem X5.1 ht hz hzl (g := mkF K.m pc L S) rfl hd hn hbig hc hl
  obtain ⟨s2, v', Lo, g, r⟩ := k h' x b kb E f1 f2 f3 f4 T' ⟨T'.vm, k1, locs, Y, hS, hk1, hZ', X5.trans hC, fun y hy => ⟨Nat.lt_of_lt_of_le (X6 y hy).1 E.1, hC.safe (X6 y hy).1 (X6 y hy).2⟩, eY, X8, fun q => by (rw [hnI] at q; cases q), Nat.le_trans X10.1 E.1, fun x c q => E.2 x c (X10.2 x c q)⟩
  exact ⟨s2, v', Lo, st _ g, r⟩
/-- the ends -/
theorem Run.ends (hK : Ok Z EL a0 l own nm bytes ml ret R K) {v : Option Value} (hv : ret = none → v = none) (hc : cl ≤ R.cells) (hs : sl ≤ R.slots)
    (f : ∀ T vm0 locs fs, Stand K.p K.l K.e K.R (K.s.setVm vm0) K.m K.as K.bl K.me K.c T locs cl sl → (∀ (f : JFrame) (acts : List Action), f.method = K.m → f.locked = none → f.entered = [] → (doReturn K.e (T.setTop f) acts v).1 = T.setFrames fs) → Steps K.p.tables K.e K.bl (T.setTop (mkF K.m pc L S)) (T.setFrames fs)) (hQ : Q v h) : Run Z EL nI K Q W h cl sl pc L S := fun T X => by
  obtain ⟨vm0, k0, locs, X1, X2, X3, X4, X5, X6, X7, X8, X9, X10⟩ := X
  obtain ⟨hx, -, rfl, -, -, rfl, hlk, -, -, hEL⟩ := id hK
  obtain ⟨fs, hr, hrun, hended, hW⟩ := X1.leaveW X2 (by rw [X7]; exact X3) (v := v) hv hlk
  have hh : (T.setFrames fs).heap = h := X7
  have B := CHv.at X1 X4 hEL X5.1
  obtain ⟨w1, w2, w3, w4⟩ := hW
  refine ⟨T.setFrames fs, v, locs, f T vm0 locs fs X1 hr, hrun, hended, by rw [hh]; exact hQ, X8, by rw [hh]; exact X5.trans B, ⟨w1, w2, w3, w4.mono hc hs⟩, fun q => State.WarmedH.trans (X9 q) X1.warmed, by rw [hh]; exact X10⟩
theorem Run.retw (hK : Ok Z EL a0 l own nm bytes ml (some ty) R K) {w : Value} {i : Instr} (hn : narrow ty w = w)
    (hi : (i = .ireturn ∧ (ty = .int ∨ ty = .boolean ∨ ty = .byte ∨ ty = .char ∨ ty = .short) ∧ ∃ z, w = .int z) ∨ (i = .lreturn ∧ ty = .long ∧ ∃ z, w = .long z) ∨ (i = .dreturn ∧ ty = .double ∧ ∃ z, w = .double z) ∨ (i = .freturn ∧ ty = .float ∧ ∃ z, w = .float z) ∨ (i = .areturn ∧ ty.isReference = true ∧ w.isRef = true))
    (hd : decode bytes pc = .ok (i, 1)) (hc : cl ≤ R.cells) (hs : sl ≤ R.slots) (hQ : Q (some w) h) : Run Z EL nI K Q W h cl sl pc L (w :: rest) :=
  Run.ends hK (v := some w) (fun q => by cases q) hc hs (fun T vm0 locs fs X hr => by
    obtain ⟨hx, rfl, rfl, rfl, rfl, hrt, -⟩ := id hK
    exact retOut X hx hrt hn hi hd hr) hQ
theorem Run.retv (hK : Ok Z EL a0 l own nm bytes ml none R K) (hd : decode bytes pc = .ok (.return_, 1)) (hc : cl ≤ R.cells) (hs : sl ≤ R.slots) (hQ : Q none h) : Run Z EL nI K Q W h cl sl pc L [] :=
  Run.ends hK (v := none) (fun _ => rfl) hc hs (fun T vm0 locs fs X hr => by
    obtain ⟨hx, rfl, rfl, rfl, rfl, hrt, -⟩ := id hK
    exact X.returnOut hx hrt hd hr) hQ
end Single
/-! plain steps, by evaluation -/
abbrev Fr3 : Type := Nat × Array Slot × List Value
def ldI (len n pc : Nat) (L : Array Slot) (S : List Value) (k : Nat) : Option Fr3 := if len = n then (match L[k]? with | some (.val (.int v)) => some (pc + n, L, .int v :: S) | _ => none) else none
def ldJ (len n pc : Nat) (L : Array Slot) (S : List Value) (k : Nat) : Option Fr3 := if len = n then (match L[k]? with | some (.val (.long v)) => some (pc + n, L, .long v :: S) | _ => none) else none
def ldA (len n pc : Nat) (L : Array Slot) (S : List Value) (k : Nat) : Option Fr3 := if len = n then (match L[k]? with | some (.val (.ref v)) => some (pc + n, L, .ref v :: S) | some (.val .null) => some (pc + n, L, .null :: S) | _ => none) else none
def stI' (len n pc : Nat) (L : Array Slot) (S : List Value) (k : Nat) : Option Fr3 := if len = n then (match S with | .int v :: r => (match storeLocals L k (.int v) with | some L' => some (pc + n, L', r) | none => none) | _ => none) else none
def stJ' (len n pc : Nat) (L : Array Slot) (S : List Value) (k : Nat) : Option Fr3 := if len = n then (match S with | .long v :: r => (match storeLocals L k (.long v) with | some L' => some (pc + n, L', r) | none => none) | _ => none) else none
def stA' (len n pc : Nat) (L : Array Slot) (S : List Value) (k : Nat) : Option Fr3 := if len = n then (match S with | .ref v :: r => (match storeLocals L k (.ref v) with | some L' => some (pc + n, L', r) | none => none) | .null :: r => (match storeLocals L k .null with | some L' => some (pc + n, L', r) | none => none) | _ => none) else none
def cst (len n pc : Nat) (L : Array Slot) (S : List Value) (v : Value) : Option Fr3 := if len = n then some (pc + n, L, v :: S) else none
def bI (len pc : Nat) (L : Array Slot) (S : List Value) (f : Int32 → Int32 → Int32) : Option Fr3 := if len = 1 then (match S with | .int y :: .int x :: r => some (pc + 1, L, .int (f x y) :: r) | _ => none) else none
def bI0 (len pc : Nat) (L : Array Slot) (S : List Value) (f : Int32 → Int32 → Int32) : Option Fr3 := if len = 1 then (match S with | .int y :: .int x :: r => if y = 0 then none else some (pc + 1, L, .int (f x y) :: r) | _ => none) else none
def bJ (len pc : Nat) (L : Array Slot) (S : List Value) (f : Int64 → Int64 → Int64) : Option Fr3 := if len = 1 then (match S with | .long y :: .long x :: r => some (pc + 1, L, .long (f x y) :: r) | _ => none) else none
def bJ0 (len pc : Nat) (L : Array Slot) (S : List Value) (f : Int64 → Int64 → Int64) : Option Fr3 := if len = 1 then (match S with | .long y :: .long x :: r => if y = 0 then none else some (pc + 1, L, .long (f x y) :: r) | _ => none) else none
def bS (len pc : Nat) (L : Array Slot) (S : List Value) (f : Int64 → Int32 → Int64) : Option Fr3 := if len = 1 then (match S with | .int y :: .long x :: r => some (pc + 1, L, .long (f x y) :: r) | _ => none) else none
def uI (len pc : Nat) (L : Array Slot) (S : List Value) (f : Int32 → Value) : Option Fr3 := if len = 1 then (match S with | .int x :: r => some (pc + 1, L, f x :: r) | _ => none) else none
def uJ (len pc : Nat) (L : Array Slot) (S : List Value) (f : Int64 → Value) : Option Fr3 := if len = 1 then (match S with | .long x :: r => some (pc + 1, L, f x :: r) | _ => none) else none
def cJ (len pc : Nat) (L : Array Slot) (S : List Value) : Option Fr3 := if len = 1 then (match S with | .long y :: .long x :: r => some (pc + 1, L, .int (XT.cmpL x y) :: r) | _ => none) else none
def one? : Value → Bool
  | .int _ => true
  | .ref _ => true
  | .null => true
  | _ => false
theorem one_cat {v : Value} (h : one? v = true) : v.category = 1 := by cases v <;> first | rfl | cases h
def dp (len pc : Nat) (L : Array Slot) (S : List Value) : Option Fr3 := if len = 1 then (match S with | x :: r => if one? x = true then some (pc + 1, L, x :: x :: r) else none | _ => none) else none
def dpx (len pc : Nat) (L : Array Slot) (S : List Value) : Option Fr3 := if len = 1 then (match S with | x :: y :: r => if one? x = true then (if one? y = true then some (pc + 1, L, x :: y :: x :: r) else none) else none | _ => none) else none
def dp2 (len pc : Nat) (L : Array Slot) (S : List Value) : Option Fr3 := if len = 1 then (match S with | x :: y :: r => if one? x = true then (if one? y = true then some (pc + 1, L, x :: y :: x :: y :: r) else none) else none | _ => none) else none
def pp (len pc : Nat) (L : Array Slot) (S : List Value) : Option Fr3 := if len = 1 then (match S with | x :: r => if one? x = true then some (pc + 1, L, r) else none | _ => none) else none
def inc (len pc : Nat) (L : Array Slot) (S : List Value) (k : Nat) (c : Int) : Option Fr3 := if len = 3 then (match L[k]? with | some (.val (.int v)) => (match storeLocals L k (.int (v + Int32.ofInt c)) with | some L' => some (pc + 3, L', S) | none => none) | _ => none) else none
def jmp (len pc : Nat) (L : Array Slot) (S : List Value) (o : Int) : Option Fr3 := if len = 3 then (if 0 ≤ (pc : Int) + o then some (((pc : Int) + o).toNat, L, S) else none) else none
def stp (i : Instr) (len pc : Nat) (L : Array Slot) (S : List Value) : Option Fr3 :=
  match i with
  | .iload_n k => ldI len 1 pc L S k.val
  | .iload k => ldI len 2 pc L S k
  | .lload_n k => ldJ len 1 pc L S k.val
  | .lload k => ldJ len 2 pc L S k
  | .aload_n k => ldA len 1 pc L S k.val
  | .aload k => ldA len 2 pc L S k
  | .istore_n k => stI' len 1 pc L S k.val
  | .istore k => stI' len 2 pc L S k
  | .lstore_n k => stJ' len 1 pc L S k.val
  | .lstore k => stJ' len 2 pc L S k
  | .astore_n k => stA' len 1 pc L S k.val
  | .astore k => stA' len 2 pc L S k
  | .iconst c => cst len 1 pc L S (.int (Int32.ofInt c))
  | .bipush c => cst len 2 pc L S (.int (Int8.ofInt c).toInt32)
  | .sipush c => cst len 3 pc L S (.int (Int16.ofInt c).toInt32)
  | .aconst_null => cst len 1 pc L S .null
  | .lconst k => cst len 1 pc L S (.long (Int64.ofNat k))
  | .iadd => bI len pc L S (· + ·)
  | .isub => bI len pc L S (· - ·)
  | .imul => bI len pc L S (· * ·)
  | .iand => bI len pc L S (· &&& ·)
  | .ior => bI len pc L S (· ||| ·)
  | .ixor => bI len pc L S (· ^^^ ·)
  | .ishl => bI len pc L S (fun x y => x <<< (y &&& 31))
  | .ishr => bI len pc L S (fun x y => x >>> (y &&& 31))
  | .iushr => bI len pc L S XT.ushr
  | .irem => bI0 len pc L S (· % ·)
  | .idiv => bI0 len pc L S (· / ·)
  | .ineg => uI len pc L S (fun x => .int (-x))
  | .ladd => bJ len pc L S (· + ·)
  | .lsub => bJ len pc L S (· - ·)
  | .land => bJ len pc L S (· &&& ·)
  | .lor => bJ len pc L S (· ||| ·)
  | .lushr => bS len pc L S XT.ushrL
  | .lshl => bS len pc L S (fun x y => x <<< (y.toInt64 &&& 63))
  | .lrem => bJ0 len pc L S (fun x y => x - (x / y) * y)
  | .i2l => uI len pc L S (fun x => .long x.toInt64)
  | .l2i => uJ len pc L S (fun x => .int x.toInt32)
  | .i2b => uI len pc L S (fun x => .int x.toInt8.toInt32)
  | .i2c => uI len pc L S (fun x => .int x.toUInt32.toUInt16.toUInt32.toInt32)
  | .lcmp => cJ len pc L S
  | .dup => dp len pc L S
  | .dup_x1 => dpx len pc L S
  | .dup2 => dp2 len pc L S
  | .pop => pp len pc L S
  | .iinc k c => inc len pc L S k c
  | .goto o => jmp len pc L S o
  | _ => none
def stq : List (Nat × Instr × Nat) → Nat → Array Slot → List Value → Option Fr3
  | [], pc, L, S => some (pc, L, S)
  | (p, i, len) :: r, pc, L, S => if p = pc then (match stp i len pc L S with | none => none | some (pc', L', S') => stq r pc' L' S') else none
section PlainSteps
variable {tb : Tables} [Ours tb] {e : Env} {below : List Frame} {T t : State} {m : MethodId} {c : Code} {pc pc' len : Nat} {L L' : Array Slot} {S S' : List Value} {i : Instr}
theorem ldI_s {n k : Nat} {r : Fr3} (h : ldI len n pc L S k = some r) : len = n ∧ ∃ v, L[k]? = some (.val (.int v)) ∧ r = (pc + n, L, .int v :: S) := by
  unfold ldI at h
  by_cases q : len = n
  · rw [if_pos q] at h
    split at h
    · rename_i v e; cases h; exact ⟨q, v, e, rfl⟩
    · cases h
  · rw [if_neg q] at h; cases h
theorem ldJ_s {n k : Nat} {r : Fr3} (h : ldJ len n pc L S k = some r) : len = n ∧ ∃ v, L[k]? = some (.val (.long v)) ∧ r = (pc + n, L, .long v :: S) := by
  unfold ldJ at h
  by_cases q : len = n
  · rw [if_pos q] at h
    split at h
    · rename_i v e; cases h; exact ⟨q, v, e, rfl⟩
    · cases h
  · rw [if_neg q] at h; cases h
theorem ldA_s {n k : Nat} {r : Fr3} (h : ldA len n pc L S k = some r) : len = n ∧ ∃ v : Value, v.isRef = true ∧ L[k]? = some (.val v) ∧ r = (pc + n, L, v :: S) := by
  unfold ldA at h
  by_cases q : len = n
  · rw [if_pos q] at h
    split at h
    · rename_i v e; cases h; exact ⟨q, _, rfl, e, rfl⟩
    · rename_i e; cases h; exact ⟨q, _, rfl, e, rfl⟩
    · cases h
  · rw [if_neg q] at h; cases h
theorem stI_s {n k : Nat} {r : Fr3} (h : stI' len n pc L S k = some r) : len = n ∧ ∃ v S' L', S = .int v :: S' ∧ storeLocals L k (.int v) = some L' ∧ r = (pc + n, L', S') := by
  unfold stI' at h
  by_cases q : len = n
  · rw [if_pos q] at h
    split at h
    · split at h
      · rename_i e; cases h; exact ⟨q, _, _, _, rfl, e, rfl⟩
      · cases h
    · cases h
  · rw [if_neg q] at h; cases h
theorem stJ_s {n k : Nat} {r : Fr3} (h : stJ' len n pc L S k = some r) : len = n ∧ ∃ v S' L', S = .long v :: S' ∧ storeLocals L k (.long v) = some L' ∧ r = (pc + n, L', S') := by
  unfold stJ' at h
  by_cases q : len = n
  · rw [if_pos q] at h
    split at h
    · split at h
      · rename_i e; cases h; exact ⟨q, _, _, _, rfl, e, rfl⟩
      · cases h
    · cases h
  · rw [if_neg q] at h; cases h
theorem stA_s {n k : Nat} {r : Fr3} (h : stA' len n pc L S k = some r) : len = n ∧ ∃ (v : Value) (S' : List Value) (L' : Array Slot), v.isRef = true ∧ S = v :: S' ∧ storeLocals L k v = some L' ∧ r = (pc + n, L', S') := by
  unfold stA' at h
  by_cases q : len = n
  · rw [if_pos q] at h
    split at h
    · split at h
      · rename_i e; cases h; exact ⟨q, _, _, _, rfl, rfl, e, rfl⟩
      · cases h
    · split at h
      · rename_i e; cases h; exact ⟨q, _, _, _, rfl, rfl, e, rfl⟩
      · cases h
    · cases h
  · rw [if_neg q] at h; cases h
theorem cst_s {n : Nat} {v : Value} {r : Fr3} (h : cst len n pc L S v = some r) : len = n ∧ r = (pc + n, L, v :: S) := by
  unfold cst at h
  by_cases q : len = n
  · rw [if_pos q] at h; cases h; exact ⟨q, rfl⟩
  · rw [if_neg q] at h; cases h
theorem bI_s {f : Int32 → Int32 → Int32} {r : Fr3} (h : bI len pc L S f = some r) : len = 1 ∧ ∃ x y S', S = .int y :: .int x :: S' ∧ r = (pc + 1, L, .int (f x y) :: S') := by
  unfold bI at h
  by_cases q : len = 1
  · rw [if_pos q] at h
    split at h
    · cases h; exact ⟨q, _, _, _, rfl, rfl⟩
    · cases h
  · rw [if_neg q] at h; cases h
theorem bI0_s {f : Int32 → Int32 → Int32} {r : Fr3} (h : bI0 len pc L S f = some r) : len = 1 ∧ ∃ x y S', ¬ y = 0 ∧ S = .int y :: .int x :: S' ∧ r = (pc + 1, L, .int (f x y) :: S') := by
  unfold bI0 at h
  by_cases q : len = 1
  · rw [if_pos q] at h
    split at h
    · split at h
      · cases h
      · rename_i q0; cases h; exact ⟨q, _, _, _, q0, rfl, rfl⟩
    · cases h
  · rw [if_neg q] at h; cases h
theorem bJ_s {f : Int64 → Int64 → Int64} {r : Fr3} (h : bJ len pc L S f = some r) : len = 1 ∧ ∃ x y S', S = .long y :: .long x :: S' ∧ r = (pc + 1, L, .long (f x y) :: S') := by
  unfold bJ at h
  by_cases q : len = 1
  · rw [if_pos q] at h
    split at h
    · cases h; exact ⟨q, _, _, _, rfl, rfl⟩
    · cases h
  · rw [if_neg q] at h; cases h
theorem bJ0_s {f : Int64 → Int64 → Int64} {r : Fr3} (h : bJ0 len pc L S f = some r) : len = 1 ∧ ∃ x y S', ¬ y = 0 ∧ S = .long y :: .long x :: S' ∧ r = (pc + 1, L, .long (f x y) :: S') := by
  unfold bJ0 at h
  by_cases q : len = 1
  · rw [if_pos q] at h
    split at h
    · split at h
      · cases h
      · rename_i q0; cases h; exact ⟨q, _, _, _, q0, rfl, rfl⟩
    · cases h
  · rw [if_neg q] at h; cases h
theorem bS_s {f : Int64 → Int32 → Int64} {r : Fr3} (h : bS len pc L S f = some r) : len = 1 ∧ ∃ x y S', S = .int y :: .long x :: S' ∧ r = (pc + 1, L, .long (f x y) :: S') := by
  unfold bS at h
  by_cases q : len = 1
  · rw [if_pos q] at h
    split at h
    · cases h; exact ⟨q, _, _, _, rfl, rfl⟩
    · cases h
  · rw [if_neg q] at h; cases h
theorem uI_s {f : Int32 → Value} {r : Fr3} (h : uI len pc L S f = some r) : len = 1 ∧ ∃ x S', S = .int x :: S' ∧ r = (pc + 1, L, f x :: S') := by
  unfold uI at h
  by_cases q : len = 1
  · rw [if_pos q] at h
    split at h
    · cases h; exact ⟨q, _, _, rfl, rfl⟩
    · cases h
  · rw [if_neg q] at h; cases h
theorem uJ_s {f : Int64 → Value} {r : Fr3} (h : uJ len pc L S f = some r) : len = 1 ∧ ∃ x S', S = .long x :: S' ∧ r = (pc + 1, L, f x :: S') := by
  unfold uJ at h
  by_cases q : len = 1
  · rw [if_pos q] at h
    split at h
    · cases h; exact ⟨q, _, _, rfl, rfl⟩
    · cases h
  · rw [if_neg q] at h; cases h
theorem cJ_s {r : Fr3} (h : cJ len pc L S = some r) : len = 1 ∧ ∃ x y S', S = .long y :: .long x :: S' ∧ r = (pc + 1, L, .int (XT.cmpL x y) :: S') := by
  unfold cJ at h
  by_cases q : len = 1
  · rw [if_pos q] at h
    split at h
    · cases h; exact ⟨q, _, _, _, rfl, rfl⟩
    · cases h
  · rw [if_neg q] at h; cases h
theorem dp_s {r : Fr3} (h : dp len pc L S = some r) : len = 1 ∧ ∃ x S', one? x = true ∧ S = x :: S' ∧ r = (pc + 1, L, x :: x :: S') := by
  unfold dp at h
  by_cases q : len = 1
  · rw [if_pos q] at h
    split at h
    · split at h
      · rename_i q0; cases h; exact ⟨q, _, _, q0, rfl, rfl⟩
      · cases h
    · cases h
  · rw [if_neg q] at h; cases h
theorem pp_s {r : Fr3} (h : pp len pc L S = some r) : len = 1 ∧ ∃ x S', one? x = true ∧ S = x :: S' ∧ r = (pc + 1, L, S') := by
  unfold pp at h
  by_cases q : len = 1
  · rw [if_pos q] at h
    split at h
    · split at h
      · rename_i q0; cases h; exact ⟨q, _, _, q0, rfl, rfl⟩
      · cases h
    · cases h
  · rw [if_neg q] at h; cases h
theorem dpx_s {r : Fr3} (h : dpx len pc L S = some r) : len = 1 ∧ ∃ x y S', one? x = true ∧ one? y = true ∧ S = x :: y :: S' ∧ r = (pc + 1, L, x :: y :: x :: S') := by
  unfold dpx at h
  by_cases q : len = 1
  · rw [if_pos q] at h
    split at h
    · split at h
      · rename_i q0
        split at h
        · rename_i q1; cases h; exact ⟨q, _, _, _, q0, q1, rfl, rfl⟩
        · cases h
      · cases h
    · cases h
  · rw [if_neg q] at h; cases h
theorem dp2_s {r : Fr3} (h : dp2 len pc L S = some r) : len = 1 ∧ ∃ x y S', one? x = true ∧ one? y = true ∧ S = x :: y :: S' ∧ r = (pc + 1, L, x :: y :: x :: y :: S') := by
  unfold dp2 at h
  by_cases q : len = 1
  · rw [if_pos q] at h
    split at h
    · split at h
      · rename_i q0
        split at h
        · rename_i q1; cases h; exact ⟨q, _, _, _, q0, q1, rfl, rfl⟩
        · cases h
      · cases h
    · cases h
  · rw [if_neg q] at h; cases h
theorem inc_s {k : Nat} {d : Int} {r : Fr3} (h : inc len pc L S k d = some r) : len = 3 ∧ ∃ v L', L[k]? = some (.val (.int v)) ∧ storeLocals L k (.int (v + Int32.ofInt d)) = some L' ∧ r = (pc + 3, L', S) := by
  unfold inc at h
  by_cases q : len = 3
  · rw [if_pos q] at h
    split at h
    · rename_i v e
      split at h
      · rename_i e2; cases h; exact ⟨q, _, _, e, e2, rfl⟩
      · cases h
    · cases h
  · rw [if_neg q] at h; cases h
theorem jmp_s {o : Int} {r : Fr3} (h : jmp len pc L S o = some r) : len = 3 ∧ 0 ≤ (pc : Int) + o ∧ r = (((pc : Int) + o).toNat, L, S) := by
  unfold jmp at h
  by_cases q : len = 3
  · rw [if_pos q] at h
    split at h
    · rename_i q0; cases h; exact ⟨q, q0, rfl⟩
    · cases h
  · rw [if_neg q] at h; cases h
set_option maxHeartbeats 4000000 in
theorem stp_ok (h : At T m c below) (hx : tb.exec = Jvm.exec) (hd : decode c.code pc = .ok (i, len)) (hs : stp i len pc L S = some (pc', L', S')) (st : Steps tb e below (T.setTop (mkF m pc' L' S')) t) : Steps tb e below (T.setTop (mkF m pc L S)) t := by
  unfold stp at hs
  split at hs
  case h_1 => obtain ⟨rfl, v, e1, e2⟩ := ldI_s hs; cases e2; exact XS.iloadN h hx rfl hd e1 st
  case h_2 => obtain ⟨rfl, v, e1, e2⟩ := ldI_s hs; cases e2; exact XS.iload h hx rfl hd e1 st
  case h_3 => obtain ⟨rfl, v, e1, e2⟩ := ldJ_s hs; cases e2; exact XT.lloadN h hx rfl hd e1 st
  case h_4 => obtain ⟨rfl, v, e1, e2⟩ := ldJ_s hs; cases e2; exact XT.lload h hx rfl hd e1 st
  case h_5 => obtain ⟨rfl, v, e0, e1, e2⟩ := ldA_s hs; cases e2; exact XS.aloadN h hx rfl hd e1 e0 st
  case h_6 => obtain ⟨rfl, v, e0, e1, e2⟩ := ldA_s hs; cases e2; exact XS.aload h hx rfl hd e1 e0 st
  case h_7 => obtain ⟨rfl, v, S1, L1, rfl, e1, e2⟩ := stI_s hs; cases e2; exact XS.istoreN h hx rfl hd rfl e1 st
  case h_8 => obtain ⟨rfl, v, S1, L1, rfl, e1, e2⟩ := stI_s hs; cases e2; exact XS.istore h hx rfl hd rfl e1 st
  case h_9 => obtain ⟨rfl, v, S1, L1, rfl, e1, e2⟩ := stJ_s hs; cases e2; exact XT.lstoreN h hx rfl hd rfl e1 st
  case h_10 => obtain ⟨rfl, v, S1, L1, rfl, e1, e2⟩ := stJ_s hs; cases e2; exact XT.lstore h hx rfl hd rfl e1 st
  case h_11 => obtain ⟨rfl, v, S1, L1, e0, rfl, e1, e2⟩ := stA_s hs; cases e2; exact XS.astoreN h hx rfl hd rfl e0 e1 st
  case h_12 => obtain ⟨rfl, v, S1, L1, e0, rfl, e1, e2⟩ := stA_s hs; cases e2; exact XS.astore h hx rfl hd rfl e0 e1 st
  case h_13 => obtain ⟨rfl, e2⟩ := cst_s hs; cases e2; exact XS.iconst h hx rfl hd st
  case h_14 => obtain ⟨rfl, e2⟩ := cst_s hs; cases e2; exact XS.bipush h hx rfl hd st
  case h_15 => obtain ⟨rfl, e2⟩ := cst_s hs; cases e2; exact XS.sipush h hx rfl hd st
  case h_16 => obtain ⟨rfl, e2⟩ := cst_s hs; cases e2; exact XS.aconstNull h hx rfl hd st
  case h_17 => obtain ⟨rfl, e2⟩ := cst_s hs; cases e2; exact XT.lconst h hx rfl hd st
  case h_18 => obtain ⟨rfl, x, y, S1, rfl, e2⟩ := bI_s hs; cases e2; exact XS.iadd h hx rfl hd rfl st
  case h_19 => obtain ⟨rfl, x, y, S1, rfl, e2⟩ := bI_s hs; cases e2; exact XS.isub h hx rfl hd rfl st
  case h_20 => obtain ⟨rfl, x, y, S1, rfl, e2⟩ := bI_s hs; cases e2; exact XS.imul h hx rfl hd rfl st
  case h_21 => obtain ⟨rfl, x, y, S1, rfl, e2⟩ := bI_s hs; cases e2; exact XS.iand h hx rfl hd rfl st
  case h_22 => obtain ⟨rfl, x, y, S1, rfl, e2⟩ := bI_s hs; cases e2; exact XT.ior h hx rfl hd rfl st
  case h_23 => obtain ⟨rfl, x, y, S1, rfl, e2⟩ := bI_s hs; cases e2; exact XT.ixor h hx rfl hd rfl st
  case h_24 => obtain ⟨rfl, x, y, S1, rfl, e2⟩ := bI_s hs; cases e2; exact XT.ishl h hx rfl hd rfl st
  case h_25 => obtain ⟨rfl, x, y, S1, rfl, e2⟩ := bI_s hs; cases e2; exact XT.ishr h hx rfl hd rfl st
  case h_26 => obtain ⟨rfl, x, y, S1, rfl, e2⟩ := bI_s hs; cases e2; exact XT.iushr h hx rfl hd rfl st
  case h_27 => obtain ⟨rfl, x, y, S1, q0, rfl, e2⟩ := bI0_s hs; cases e2; refine XS.irem h hx rfl hd rfl q0 ?_; have q1 : x - x / y * y = x % y := irem_eq_mod x y; rw [q1]; exact st
  case h_28 => obtain ⟨rfl, x, y, S1, q0, rfl, e2⟩ := bI0_s hs; cases e2; exact XS.idiv h hx rfl hd rfl q0 st
  case h_29 => obtain ⟨rfl, x, S1, rfl, e2⟩ := uI_s hs; cases e2; exact XS.ineg h hx rfl hd rfl st
  case h_30 => obtain ⟨rfl, x, y, S1, rfl, e2⟩ := bJ_s hs; cases e2; exact XT.ladd h hx rfl hd rfl st
  case h_31 => obtain ⟨rfl, x, y, S1, rfl, e2⟩ := bJ_s hs; cases e2; exact XT.lsub h hx rfl hd rfl st
  case h_32 => obtain ⟨rfl, x, y, S1, rfl, e2⟩ := bJ_s hs; cases e2; exact XT.land h hx rfl hd rfl st
  case h_33 => obtain ⟨rfl, x, y, S1, rfl, e2⟩ := bJ_s hs; cases e2; exact XT.lor h hx rfl hd rfl st
  case h_34 => obtain ⟨rfl, x, y, S1, rfl, e2⟩ := bS_s hs; cases e2; exact XT.lushr h hx rfl hd rfl st
  case h_35 => obtain ⟨rfl, x, y, S1, rfl, e2⟩ := bS_s hs; cases e2; exact XT.lshl h hx rfl hd rfl st
  case h_36 => obtain ⟨rfl, x, y, S1, q0, rfl, e2⟩ := bJ0_s hs; cases e2; exact XT.lrem h hx rfl hd rfl q0 st
  case h_37 => obtain ⟨rfl, x, S1, rfl, e2⟩ := uI_s hs; cases e2; exact XT.i2l h hx rfl hd rfl st
  case h_38 => obtain ⟨rfl, x, S1, rfl, e2⟩ := uJ_s hs; cases e2; exact XT.l2i h hx rfl hd rfl st
  case h_39 => obtain ⟨rfl, x, S1, rfl, e2⟩ := uI_s hs; cases e2; exact XT.i2b h hx rfl hd rfl st
  case h_40 => obtain ⟨rfl, x, S1, rfl, e2⟩ := uI_s hs; cases e2; exact XT.i2c h hx rfl hd rfl st
  case h_41 => obtain ⟨rfl, x, y, S1, rfl, e2⟩ := cJ_s hs; cases e2; exact XT.lcmp h hx rfl hd rfl st
  case h_42 => obtain ⟨rfl, x, S1, q0, rfl, e2⟩ := dp_s hs; cases e2; exact XS.dup h hx rfl hd rfl (one_cat q0) st
  case h_43 => obtain ⟨rfl, x, y, S1, q0, q1, rfl, e2⟩ := dpx_s hs; cases e2; exact XT.dupX1 h hx rfl hd rfl (one_cat q0) (one_cat q1) st
  case h_44 => obtain ⟨rfl, x, y, S1, q0, q1, rfl, e2⟩ := dp2_s hs; cases e2; exact XT.dup2 h hx rfl hd rfl (one_cat q0) (one_cat q1) st
  case h_45 => obtain ⟨rfl, x, S1, q0, rfl, e2⟩ := pp_s hs; cases e2; exact XT.pop h hx rfl hd rfl (one_cat q0) st
  case h_46 => obtain ⟨rfl, v, L1, e0, e1, e2⟩ := inc_s hs; cases e2; exact XS.iinc h hx rfl hd e0 e1 st
  case h_47 => obtain ⟨rfl, q0, e2⟩ := jmp_s hs; cases e2; exact XS.goto h hx rfl rfl hd q0 rfl st
  case h_48 => cases hs
theorem stq_nil {r : Fr3} (h : stq [] pc L S = some r) : r = (pc, L, S) := (Option.some.inj h).symm
theorem stq_cons {p : Nat} {seg : List (Nat × Instr × Nat)} {r : Fr3} (h : stq ((p, i, len) :: seg) pc L S = some r) : p = pc ∧ ∃ pc1 L1 S1, stp i len pc L S = some (pc1, L1, S1) ∧ stq seg pc1 L1 S1 = some r := by
  have e : stq ((p, i, len) :: seg) pc L S = if p = pc then (match stp i len pc L S with | none => none | some (pc', L', S') => stq seg pc' L' S') else none := rfl
  rw [e] at h
  by_cases q : p = pc
  · rw [if_pos q] at h
    cases e1 : stp i len pc L S with
    | none => rw [e1] at h; cases h
    | some x => obtain ⟨pc1, L1, S1⟩ := x; rw [e1] at h; exact ⟨q, pc1, L1, S1, rfl, h⟩
  · rw [if_neg q] at h; cases h
theorem stq_ok (h : At T m c below) (hx : tb.exec = Jvm.exec) (seg : List (Nat × Instr × Nat)) : ∀ (pc : Nat) (L : Array Slot) (S : List Value), (∀ x ∈ seg, decode c.code x.1 = .ok x.2) → stq seg pc L S = some (pc', L', S') → Steps tb e below (T.setTop (mkF m pc' L' S')) t → Steps tb e below (T.setTop (mkF m pc L S)) t := by
  induction seg with
  | nil =>
    intro pc L S _ hs st
    have e := stq_nil hs
    simp only [Prod.mk.injEq] at e
    obtain ⟨rfl, rfl, rfl⟩ := e
    exact st
  | cons a r ih =>
    intro pc L S hseg hs st
    obtain ⟨p, i, len⟩ := a
    obtain ⟨rfl, pc1, L1, S1, e1, e2⟩ := stq_cons hs
    have hd := hseg _ (List.mem_cons_self ..)
    have hr := ih pc1 L1 S1 (fun x hm => hseg x (List.mem_cons_of_mem _ hm)) e2 st
    exact stp_ok h hx hd e1 hr
end PlainSteps
section Branches
variable {Z : State} {EL : List (String × Nat)} {nI : Bool} {a0 : Array Value} {l : Launch} {own nm : String} {bytes : ByteArray} {ml : Nat} {ret : Option FieldType} {R : Room} {K : Kx} {Q : Option Value → Heap → Prop} {W : List Addr} {h : Heap} {cl sl pc pc' : Nat} {L L' : Array Slot} {S S' rest : List Value} {x y : Int32} {o : Int} {a : Addr}
def segOk (bytes : ByteArray) (seg : List (Nat × Instr × Nat)) : Bool := seg.all fun x => decide (decode bytes x.1 = .ok x.2)
theorem Run.pure (hK : Ok Z EL a0 l own nm bytes ml ret R K) {seg : List (Nat × Instr × Nat)} (hseg : segOk bytes seg = true) (hs : stq seg pc L S = some (pc', L', S')) (k : Run Z EL nI K Q W h cl sl pc' L' S') : Run Z EL nI K Q W h cl sl pc L S := by
  obtain ⟨hx, rfl, rfl, rfl, rfl, -⟩ := id hK
  refine Run.step hK (fun T X t st => stq_ok X hx seg pc L S (fun x hm => ?_) hs st) k
  exact of_decide_eq_true (List.all_eq_true.mp hseg x hm)
theorem Run.icmp (hK : Ok Z EL a0 l own nm bytes ml ret R K) {cd : ClassFile.Cond} (hd : decode bytes pc = .ok (.if_icmp cd o, 3)) (ho : 0 ≤ (pc : Int) + o) (hp : ((pc : Int) + o).toNat = pc')
    (kY : if_icmp.holds cd x y = true → Run Z EL nI K Q W h cl sl pc' L rest) (kN : if_icmp.holds cd x y = false → Run Z EL nI K Q W h cl sl (pc + 3) L rest) : Run Z EL nI K Q W h cl sl pc L (.int y :: .int x :: rest) := by
  obtain ⟨hx, rfl, rfl, rfl, rfl, -⟩ := id hK
  cases hc : if_icmp.holds cd x y
  · exact Run.step hK (fun T X t st => XS.icmpNo X hx rfl hd rfl hc st) (kN hc)
  · exact Run.step hK (fun T X t st => XS.icmpYes X hx rfl (pc0 := pc) rfl hd rfl hc ho hp st) (kY hc)
theorem Run.ifz (hK : Ok Z EL a0 l own nm bytes ml ret R K) {cd : ClassFile.Cond} (hd : decode bytes pc = .ok (.ifCond cd o, 3)) (ho : 0 ≤ (pc : Int) + o) (hp : ((pc : Int) + o).toNat = pc')
    (kY : if_icmp.holds cd x 0 = true → Run Z EL nI K Q W h cl sl pc' L rest) (kN : if_icmp.holds cd x 0 = false → Run Z EL nI K Q W h cl sl (pc + 3) L rest) : Run Z EL nI K Q W h cl sl pc L (.int x :: rest) := by
  obtain ⟨hx, rfl, rfl, rfl, rfl, -⟩ := id hK
  cases hc : if_icmp.holds cd x 0
  · exact Run.step hK (fun T X t st => XS.ifNo X hx rfl hd rfl (by rw [if0]; exact hc) st) (kN hc)
  · exact Run.step hK (fun T X t st => XS.ifYes X hx rfl (pc0 := pc) rfl hd rfl (by rw [if0]; exact hc) ho hp st) (kY hc)
theorem h_eq (x y : Int32) : (if_icmp.holds .eq x y = true → x = y) ∧ (if_icmp.holds .eq x y = false → ¬ x = y) := by
  by_cases q : x = y
  · refine ⟨fun _ => q, fun z => ?_⟩; rw [(teq q).1] at z; cases z
  · refine ⟨fun z => ?_, fun _ => q⟩; rw [(feq q).1] at z; cases z
theorem h_ne (x y : Int32) : (if_icmp.holds .ne x y = true → ¬ x = y) ∧ (if_icmp.holds .ne x y = false → x = y) := by
  by_cases q : x = y
  · refine ⟨fun z => ?_, fun _ => q⟩; rw [(teq q).2] at z; cases z
  · refine ⟨fun _ => q, fun z => ?_⟩; rw [(feq q).2] at z; cases z
theorem h_lt (x y : Int32) : (if_icmp.holds .lt x y = true → x < y) ∧ (if_icmp.holds .lt x y = false → ¬ x < y) := by
  by_cases q : x < y
  · refine ⟨fun _ => q, fun z => ?_⟩; rw [(tlt q).1] at z; cases z
  · refine ⟨fun z => ?_, fun _ => q⟩; rw [(flt q).1] at z; cases z
theorem h_ge (x y : Int32) : (if_icmp.holds .ge x y = true → ¬ x < y) ∧ (if_icmp.holds .ge x y = false → x < y) := by
  by_cases q : x < y
  · refine ⟨fun z => ?_, fun _ => q⟩; rw [(tlt q).2.1] at z; cases z
  · refine ⟨fun _ => q, fun z => ?_⟩; rw [(flt q).2.1] at z; cases z
theorem h_gt (x y : Int32) : (if_icmp.holds .gt x y = true → y < x) ∧ (if_icmp.holds .gt x y = false → ¬ y < x) := by
  by_cases q : y < x
  · refine ⟨fun _ => q, fun z => ?_⟩; rw [(tlt q).2.2.1] at z; cases z
  · refine ⟨fun z => ?_, fun _ => q⟩; rw [(flt q).2.2.1] at z; cases z
theorem h_le (x y : Int32) : (if_icmp.holds .le x y = true → ¬ y < x) ∧ (if_icmp.holds .le x y = false → y < x) := by
  by_cases q : y < x
  · refine ⟨fun z => ?_, fun _ => q⟩; rw [(tlt q).2.2.2] at z; cases z
  · refine ⟨fun _ => q, fun z => ?_⟩; rw [(flt q).2.2.2] at z; cases z
theorem Run.ifn (hK : Ok Z EL a0 l own nm bytes ml ret R K) (hd : decode bytes pc = .ok (.ifnull o, 3)) (ho : 0 ≤ (pc : Int) + o) (hp : ((pc : Int) + o).toNat = pc') (k : Run Z EL nI K Q W h cl sl pc' L rest) : Run Z EL nI K Q W h cl sl pc L (.null :: rest) := by
  obtain ⟨hx, rfl, rfl, rfl, rfl, -⟩ := id hK
  exact Run.step hK (fun T X t st => XS.ifnullYes X hx rfl (pc0 := pc) rfl hd rfl ho hp st) k
theorem Run.ifr (hK : Ok Z EL a0 l own nm bytes ml ret R K) (hd : decode bytes pc = .ok (.ifnull o, 3)) (k : Run Z EL nI K Q W h cl sl (pc + 3) L rest) : Run Z EL nI K Q W h cl sl pc L (.ref a :: rest) := by
  obtain ⟨hx, rfl, rfl, rfl, rfl, -⟩ := id hK
  exact Run.step hK (fun T X t st => XS.ifnullNo X hx rfl hd rfl st) k
theorem Run.ifnnr (hK : Ok Z EL a0 l own nm bytes ml ret R K) (hd : decode bytes pc = .ok (.ifnonnull o, 3)) (ho : 0 ≤ (pc : Int) + o) (hp : ((pc : Int) + o).toNat = pc') (k : Run Z EL nI K Q W h cl sl pc' L rest) : Run Z EL nI K Q W h cl sl pc L (.ref a :: rest) := by
  obtain ⟨hx, rfl, rfl, rfl, rfl, -⟩ := id hK
  exact Run.step hK (fun T X t st => XT.ifnonnullYes X hx rfl (pc0 := pc) rfl hd rfl ho hp st) k
theorem Run.ifnnn (hK : Ok Z EL a0 l own nm bytes ml ret R K) (hd : decode bytes pc = .ok (.ifnonnull o, 3)) (k : Run Z EL nI K Q W h cl sl (pc + 3) L rest) : Run Z EL nI K Q W h cl sl pc L (.null :: rest) := by
  obtain ⟨hx, rfl, rfl, rfl, rfl, -⟩ := id hK
  exact Run.step hK (fun T X t st => XT.ifnonnullNo X hx rfl hd rfl st) k
theorem Run.cast (hK : Ok Z EL a0 l own nm bytes ml ret R K) {Kc : String} {index : Nat} (w : (Jvm.Cond.classLink own index Kc).before a0 Z = true) (F : Ins Z h a Kc true) (hd : decode bytes pc = .ok (.checkcast index, 3)) (k : Run Z EL nI K Q W h cl sl (pc + 3) L (.ref a :: rest)) : Run Z EL nI K Q W h cl sl pc L (.ref a :: rest) := by
  obtain ⟨hx, rfl, rfl, rfl, rfl, -⟩ := id hK
  refine Run.same hK (fun T vm0 locs X hZ hown e => ?_) k
  exact castY X hx hZ hown w e F (g := mkF K.m pc L (.ref a :: rest)) rfl rfl hd
theorem Run.castn (hK : Ok Z EL a0 l own nm bytes ml ret R K) {index : Nat} (hd : decode bytes pc = .ok (.checkcast index, 3)) (k : Run Z EL nI K Q W h cl sl (pc + 3) L (.null :: rest)) : Run Z EL nI K Q W h cl sl pc L (.null :: rest) := by
  obtain ⟨hx, rfl, rfl, rfl, rfl, -⟩ := id hK
  refine Run.same hK (fun T vm0 locs X hZ hown e => ⟨T, X, e, ?_⟩) k
  exact X.checkcastNull hx (g := mkF K.m pc L (.null :: rest)) rfl rfl hd
theorem Run.instY (hK : Ok Z EL a0 l own nm bytes ml ret R K) {Kc : String} {index : Nat} (w : (Jvm.Cond.classLink own index Kc).before a0 Z = true) (F : Ins Z h a Kc true) (hd : decode bytes pc = .ok (.instanceof index, 3)) (k : Run Z EL nI K Q W h cl sl (pc + 3) L (.int 1 :: rest)) : Run Z EL nI K Q W h cl sl pc L (.ref a :: rest) := by
  obtain ⟨hx, rfl, rfl, rfl, rfl, -⟩ := id hK
  refine Run.same hK (fun T vm0 locs X hZ hown e => ?_) k
  exact Jvm.RoadKit.instY X hx hZ hown w e F (g := mkF K.m pc L (.ref a :: rest)) rfl rfl hd
theorem Run.instN (hK : Ok Z EL a0 l own nm bytes ml ret R K) {Kc C : String} {index : Nat} (w : (Jvm.Cond.classLink own index Kc).before a0 Z = true) (F : Ins Z h a Kc false) (E : Exa Z h a C) (hd : decode bytes pc = .ok (.instanceof index, 3)) (k : Run Z EL nI K Q W h cl sl (pc + 3) L (.int 0 :: rest)) : Run Z EL nI K Q W h cl sl pc L (.ref a :: rest) := by
  obtain ⟨hx, rfl, rfl, rfl, rfl, -⟩ := id hK
  refine Run.same hK (fun T vm0 locs X hZ hown e => ?_) k
  obtain ⟨cell, cT, h1, h2, h3⟩ := F
  obtain ⟨cell', kc, e1, -, e3, e4, -⟩ := E
  cases h1.symm.trans e1
  obtain ⟨k', q, -⟩ := hZ.alike.2.2 _ _ e3
  obtain ⟨vm', X', st⟩ := Jvm.Sym.instanceofNoAt X hx hown (mvT hZ w) (by rw [e]; exact h1) e4 q (by rw [hZ.alike.findClass]; exact h2) (by rw [hZ.alike.assignable]; simpa [e4] using h3) (g := mkF K.m pc L (.ref a :: rest)) rfl rfl hd
  exact ⟨_, X', e, st⟩
theorem Run.instNull (hK : Ok Z EL a0 l own nm bytes ml ret R K) {index : Nat} (hd : decode bytes pc = .ok (.instanceof index, 3)) (k : Run Z EL nI K Q W h cl sl (pc + 3) L (.int 0 :: rest)) : Run Z EL nI K Q W h cl sl pc L (.null :: rest) := by
  obtain ⟨hx, rfl, rfl, rfl, rfl, -⟩ := id hK
  refine Run.same hK (fun T vm0 locs X hZ hown e => ⟨T, X, e, ?_⟩) k
  exact X.instanceofNull hx (g := mkF K.m pc L (.null :: rest)) rfl rfl hd
/-- if_acmp: same: whether the two are one -/
theorem Run.acmp (hK : Ok Z EL a0 l own nm bytes ml ret R K) {cd : ACond} {u v : Value} (h1 : u.isRef = true) (h2 : v.isRef = true) {same : Bool} (hq : decide (u = v) = same) (hd : decode bytes pc = .ok (.if_acmp cd o, 3)) (ho : 0 ≤ (pc : Int) + o) (hp : pc' = if acV cd same = true then ((pc : Int) + o).toNat else pc + 3)
    (k : Run Z EL nI K Q W h cl sl pc' L rest) : Run Z EL nI K Q W h cl sl pc L (v :: u :: rest) := by
  obtain ⟨hx, rfl, rfl, rfl, rfl, -⟩ := id hK
  refine Run.same hK (fun T vm0 locs X hZ hown e => ⟨T, X, e, fun t st => ?_⟩) k
  exact Jvm.RoadKit.acmp X hx (g := mkF K.m pc L (v :: u :: rest)) rfl h1 h2 (pc0 := pc) rfl hd rfl hq ho hp st
theorem Run.irem (hK : Ok Z EL a0 l own nm bytes ml ret R K) (hd : decode bytes pc = .ok (.irem, 1)) (hy : y ≠ 0) (k : Run Z EL nI K Q W h cl sl (pc + 1) L (.int (x % y) :: rest)) : Run Z EL nI K Q W h cl sl pc L (.int y :: .int x :: rest) := by
  obtain ⟨hx, rfl, rfl, rfl, rfl, -⟩ := id hK
  refine Run.same hK (fun T vm0 locs X hZ hown e => ⟨T, X, e, fun t st => ?_⟩) k
  exact iremM X hx (g := mkF K.m pc L (.int y :: .int x :: rest)) rfl hd rfl hy st
end Branches
end Jvm.OwnK
namespace Jvm.OwnK
open Sem ClassFile Op Lib Jvm.RoadKit
theorem tI0 : (0 : Int32).toInt = 0 := rfl
theorem c16 {x : Int32} (h0 : ¬ x < 0) (h1 : ¬ (65535 : Int32) < x) : x.toUInt32.toUInt16.toUInt32.toInt32 = x := by
  have q := c_i2c x
  rw [Int32.lt_iff_toInt_lt] at h0 h1
  have e1 : (0 : Int32).toInt = 0 := rfl
  have e2 : (65535 : Int32).toInt = 65535 := rfl
  apply Int32.toInt_inj.mp; omega
theorem lt255 {x : Int32} (h : ¬ (255 : Int32) < x) : ¬ (65535 : Int32) < x := fun q => h (Int32.lt_trans (by decide) q)
/-- a char below 256, as i2c, castore and ireturn leave it -/
theorem nc {x : Int32} (h : ¬ x < 0 ∧ ¬ (255 : Int32) < x) : nar .char x = x := c16 h.1 (lt255 h.2)
theorem nrc {x : Int32} (h : ¬ x < 0 ∧ ¬ (255 : Int32) < x) : narrow .char (.int x) = .int x := by rw [show narrow .char (.int x) = .int x.toUInt32.toUInt16.toUInt32.toInt32 from rfl, c16 h.1 (lt255 h.2)]
theorem m255 (x : Int32) : ¬ (x &&& 255) < 0 ∧ ¬ (255 : Int32) < (x &&& 255) := by
  have q := c_and x 255 (by decide)
  have e2 : (255 : Int32).toInt = 255 := rfl
  rw [Int32.lt_iff_toInt_lt, Int32.lt_iff_toInt_lt, tI0, e2]; omega
theorem i2c255 (x : Int32) : (x &&& (255 : Int32)).toUInt32.toUInt16.toUInt32.toInt32 = x &&& 255 := c16 (m255 x).1 (lt255 (m255 x).2)
theorem ofN {n : Nat} (h : n ≤ 4000) : (Int32.ofNat n).toInt = n := Int32.toInt_ofNat_small (by omega)
theorem ofN_lt {n : Nat} (h : n ≤ 4000) {k : Int32} {m : Nat} (hk : k.toInt = m) : Int32.ofNat n < k ↔ n < m := by rw [Int32.lt_iff_toInt_lt, ofN h, hk]; omega
theorem ofN_sub {n m : Nat} (h : n ≤ 4000) (hm : m ≤ n) : Int32.ofNat n - Int32.ofNat m = Int32.ofNat (n - m) := by
  apply Int32.toInt_inj.mp
  have q := c_isub (Int32.ofNat n) (Int32.ofNat m)
  have r := rng32 (Int32.ofNat n - Int32.ofNat m)
  rw [ofN h, ofN (by omega)] at q
  rw [ofN (by omega)]; omega
theorem ofN_add {n m : Nat} (h : n + m ≤ 4000) : Int32.ofNat n + Int32.ofNat m = Int32.ofNat (n + m) := by
  apply Int32.toInt_inj.mp
  have q := c_iadd (Int32.ofNat n) (Int32.ofNat m)
  have r := rng32 (Int32.ofNat n + Int32.ofNat m)
  rw [ofN (by omega), ofN (by omega)] at q
  rw [ofN h]; omega
end Jvm.OwnK
namespace Jvm.OwnK
open Sem ClassFile Op Lib Jvm.Free Jvm.RoadKit
section Facts
variable {Z : State} {a0 : Array Value} {h h1 h2 : Heap} {a : Addr} {C K O : String} {n : Nat} {ws : List Addr}
theorem Ext.tr (E : Ext h h1) (F : Ext h1 h2) : Ext h h2 := ⟨Nat.le_trans E.1 F.1, fun x c q => F.2 x c (E.2 x c q)⟩
theorem Ext.rf : Ext h h := ⟨Nat.le_refl _, fun _ _ q => q⟩
theorem ext_keep (E : Ext h h1) (F : Keep h1 h2 ws) (hn : ∀ x ∈ ws, h.size ≤ x) : Ext h h2 := ⟨Nat.le_trans E.1 F.1, fun x c q => F.2.1 x c (E.2 x c q) fun hm => absurd (Array.getElem?_eq_some_iff.mp q).1 (Nat.not_lt.mpr (hn x hm))⟩
theorem ext_wr (E : Ext h h1) {i : Nat} {v : Value} (F : Wr h1 h2 a i v) (hn : h.size ≤ a) : Ext h h2 := ext_keep E (Keep.of_wr F) (fun x hx => by cases List.mem_singleton.mp hx; exact hn)
/-- an object of C is none of K: C's superclass is O, which has none -/
theorem ins_no (w1 : (Jvm.Cond.superclass C O).before a0 Z = true) (w2 : (Jvm.Cond.noSuperclass O).before a0 Z = true) (wi : (Jvm.Cond.instantiable K n).before a0 Z = true) (g1 : C ≠ K) (g2 : O ≠ K) (E : Exa Z h a C) : Ins Z h a K false := by
  obtain ⟨t, kt, t1, t2, t3, t4, -⟩ := Cond.instantiable_spec wi
  obtain ⟨c, h0⟩ := found_sup w1
  obtain ⟨p, k, kp, s1, s2, s3, s4, s5, s6, s7⟩ := Cond.superclass_spec h0 w1
  obtain ⟨p', kp', r1, r2, r3, r4, r5⟩ := Cond.noSuperclass_spec w2
  cases s1.symm.trans r1
  obtain ⟨cell, kc, e1, e2, e3, e4, -⟩ := E
  cases h0.symm.trans e2
  have n1 := ids_ne h0 t1 g1
  have n2 := ids_ne s1 t1 g2
  have n3 : ∀ fuel, Z.vm.isSubclassAux fuel p t = false := fun fuel => by
    cases fuel with
    | zero => rfl
    | succ f => simp [Vm.isSubclassAux, n2, r2, r3]
  have n4 : ∀ fuel, Z.vm.isSubclassAux fuel cell.cls t = false := fun fuel => by
    cases fuel with
    | zero => rfl
    | succ f => simp [Vm.isSubclassAux, n1, s2, s4, n3]
  have ti : kt.isInterface = false := by cases q : kt.isInterface <;> simp [q] at t4 ⊢
  refine ⟨cell, t, e1, t1, ?_⟩
  have : Z.vm.assignable cell.cls t = false := by
    show Z.vm.assignableAux (255 + 1) cell.cls t = false
    simp [Vm.assignableAux, n1, s2, t2, s5, t3, ti, Vm.isSubclass, n4]
  rw [this]; simp
/-- .. C's superclass is D, D's is O, which has none -/
theorem ins_no2 {D : String} (w0 : (Jvm.Cond.superclass C D).before a0 Z = true) (w1 : (Jvm.Cond.superclass D O).before a0 Z = true) (w2 : (Jvm.Cond.noSuperclass O).before a0 Z = true) (wi : (Jvm.Cond.instantiable K n).before a0 Z = true) (g0 : C ≠ K) (g1 : D ≠ K) (g2 : O ≠ K) (E : Exa Z h a C) : Ins Z h a K false := by
  obtain ⟨t, kt, t1, t2, t3, t4, -⟩ := Cond.instantiable_spec wi
  obtain ⟨c, h0⟩ := found_sup w0
  obtain ⟨d, k0, kd, u1, u2, u3, u4, u5, u6, u7⟩ := Cond.superclass_spec h0 w0
  obtain ⟨p, k, kp, s1, s2, s3, s4, s5, s6, s7⟩ := Cond.superclass_spec u1 w1
  obtain ⟨p', kp', r1, r2, r3, r4, r5⟩ := Cond.noSuperclass_spec w2
  cases s1.symm.trans r1
  obtain ⟨cell, kc, e1, e2, e3, e4, -⟩ := E
  cases h0.symm.trans e2
  have n0 := ids_ne h0 t1 g0
  have n1 := ids_ne u1 t1 g1
  have n2 := ids_ne s1 t1 g2
  have n3 : ∀ fuel, Z.vm.isSubclassAux fuel p t = false := fun fuel => by
    cases fuel with
    | zero => rfl
    | succ f => simp [Vm.isSubclassAux, n2, r2, r3]
  have n4 : ∀ fuel, Z.vm.isSubclassAux fuel d t = false := fun fuel => by
    cases fuel with
    | zero => rfl
    | succ f => simp [Vm.isSubclassAux, n1, s2, s4, n3]
  have n5 : ∀ fuel, Z.vm.isSubclassAux fuel cell.cls t = false := fun fuel => by
    cases fuel with
    | zero => rfl
    | succ f => simp [Vm.isSubclassAux, n0, u2, u4, n4]
  have ti : kt.isInterface = false := by cases q : kt.isInterface <;> simp [q] at t4 ⊢
  refine ⟨cell, t, e1, t1, ?_⟩
  have : Z.vm.assignable cell.cls t = false := by
    show Z.vm.assignableAux (255 + 1) cell.cls t = false
    simp [Vm.assignableAux, n0, u2, t2, u5, t3, ti, Vm.isSubclass, n5]
  rw [this]; simp
theorem and3 (x : Int32) : x &&& 3 = 0 ∨ x &&& 3 = 1 ∨ x &&& 3 = 2 ∨ x &&& 3 = 3 := by
  have q := c_mask x 3 2 (by decide) (by decide)
  have e : ∀ k : Int32, (x &&& 3).toInt = k.toInt → x &&& 3 = k := fun k h => Int32.toInt_inj.mp h
  have h0 := e 0; have h1 := e 1; have h2 := e 2; have h3 := e 3
  have e0 : (0 : Int32).toInt = 0 := rfl
  have e1 : (1 : Int32).toInt = 1 := rfl
  have e2 : (2 : Int32).toInt = 2 := rfl
  have e3 : (3 : Int32).toInt = 3 := rfl
  rw [e0] at h0; rw [e1] at h1; rw [e2] at h2; rw [e3] at h3
  have : x.toInt % ((2 ^ 2 : Nat) : Int) = 0 ∨ x.toInt % ((2 ^ 2 : Nat) : Int) = 1 ∨ x.toInt % ((2 ^ 2 : Nat) : Int) = 2 ∨ x.toInt % ((2 ^ 2 : Nat) : Int) = 3 := by omega
  rcases this with z | z | z | z
  · exact Or.inl (h0 (q.trans z))
  · exact Or.inr (Or.inl (h1 (q.trans z)))
  · exact Or.inr (Or.inr (Or.inl (h2 (q.trans z))))
  · exact Or.inr (Or.inr (Or.inr (h3 (q.trans z))))
end Facts
end Jvm.OwnK
namespace Jvm.OwnK
open Sem ClassFile Op Lib Jvm.RoadKit
theorem getD_mapI (cs : List Int32) (i : Nat) : (cs.map Value.int).getD i (.int 0) = .int (cs.getD i 0) := by
  simp only [List.getD_eq_getElem?_getD, List.getElem?_map]
  cases cs[i]? <;> rfl
theorem set_map (cs : List Int32) (i n : Nat) (c : Int32) (hn : n = cs.length) : setv (cs.map Value.int) n i (.int 0) (.int c) = (cs.set i c).map Value.int := by
  unfold setv; simp [hn, List.map_set]
theorem set_eq {cs : List Int32} {i : Nat} {c : Int32} (hi : i < cs.length) : cs.set i c = cs ↔ c = cs.getD i 0 := by
  constructor
  · intro h
    have q : (cs.set i c).getD i 0 = cs.getD i 0 := by rw [h]
    simpa [List.getD_eq_getElem?_getD, hi] using q
  · rintro rfl
    refine List.ext_getElem (by simp) fun j h1 h2 => ?_
    rw [List.getElem_set]
    split
    · rename_i e; subst e; simp [List.getD_eq_getElem?_getD, hi]
    · rfl
theorem ofN_nat {n : Nat} (h : n ≤ 4000) : (Int32.ofNat n).toNatClampNeg = n := by
  have := ofN h
  simp only [Int32.toNatClampNeg, this]; omega
theorem ofN_nn {n : Nat} (h : n ≤ 4000) : ¬ Int32.ofNat n < 0 := by rw [Int32.lt_iff_toInt_lt, ofN h, tI0]; omega
end Jvm.OwnK
/- laws to paste: Road.backV, Road.eqW, Road.lenW, Road.chN, Road.codOf (cut by pick.py; bodies as the Statement names them) -/
namespace Jvm.Pilot.@@N@@
namespace StrChars
open Jvm Sem ClassFile Op Lib Jvm.Stand Jvm.Free.XT Jvm.Free.ALB Jvm.Free.JM Jvm.Free
open Jvm.Lib.Cold (StaticIs)
/-- a char array whose places are chars -/
def Ch (a : Addr) (A : Cell) (U : State) : Prop := Arr .char a A U ∧ Typed .char A
theorem Ch.mv {a : Addr} {A : Cell} {U U' : State} (h : Ch a A U) (hal : U.vm.Alike U'.vm) (hh : U'.heap = U.heap) : Ch a A U' := ⟨h.1.mv hal hh, h.2⟩
theorem Ch.keep {a : Addr} {A : Cell} {U U' : State} (h : Ch a A U) (hal : U.vm.Alike U'.vm) (hk : U'.heap[a]? = some A) : Ch a A U' := ⟨h.1.keep hal hk, h.2⟩
/-- what place i of a char[]'s cell holds -/
def cv (A : Cell) (i : Nat) : Int32 := match A.slots[i]? with | some (.int x) => x | _ => 0
theorem Ch.get {a : Addr} {A : Cell} {U : State} (h : Ch a A U) {i : Nat} (hi : i < A.slots.size) : A.slots[i]? = some (.int (cv A i)) := by
  have e := Array.getElem?_eq_getElem hi
  have f := h.2 i _ e
  unfold cv; rw [e]
  generalize A.slots[i] = v at f
  cases v <;> simp [fits] at f ⊢
/-- the byte that i2b leaves of a char -/
def lo8 (x : Int32) : Int32 := x.toInt8.toInt32
theorem fits_lo8 (y : Int32) : fits .byte (.int (lo8 y)) = true := by
  have h1 := y.toInt8.le_toInt
  have h2 := y.toInt8.toInt_lt
  simp only [lo8, fits, Bool.and_eq_true, decide_eq_true_eq, Int32.le_iff_toInt_le, Int8.toInt_toInt32, show (-128 : Int32).toInt = -128 from by decide, show (127 : Int32).toInt = 127 from by decide]
  omega
/-- A' is A but that each place j of lo .. hi - 1 holds f j -/
def Laid (A A' : Cell) (lo hi : Nat) (f : Nat → Value) : Prop := A'.cls = A.cls ∧ A'.vm = A.vm ∧ A'.slots.size = A.slots.size ∧ ∀ i, A'.slots[i]? = if lo ≤ i ∧ i < hi then some (f i) else A.slots[i]?
theorem Laid.zero (A : Cell) (lo : Nat) (f : Nat → Value) : Laid A A lo (lo + 0) f := ⟨rfl, rfl, rfl, fun i => by rw [if_neg (by omega)]⟩
theorem Laid.step {A Ak : Cell} {lo k : Nat} {f : Nat → Value} {v : Value} (h : Laid A Ak lo k f) (hlo : lo ≤ k) (hk : k < Ak.slots.size) (hv : v = f k) : Laid A (Ak.setSlot k v) lo (k + 1) f := by
  refine ⟨h.1, h.2.1, by simpa [Cell.setSlot] using h.2.2.1, fun i => ?_⟩
  by_cases e : k = i
  · subst e; rw [Cell.slots_setSlot_self v hk, if_pos (by omega), hv]
  · rw [Cell.slots_setSlot_ne v e, h.2.2.2 i]
    by_cases q : lo ≤ i ∧ i < k
    · rw [if_pos q, if_pos (by omega)]
    · rw [if_neg q, if_neg (by omega)]
def U16 : String := "java/lang/StringUTF16"
namespace Cmp5
def yN : MethodName := ⟨"java/lang/StringUTF16", "compress", "([CI[BII)I"⟩
abbrev yB : ByteArray := jdk_52_method_21_code
theorem d0 : decode yB 0 = .ok (.iconst 0, 1) := by decide +kernel
theorem d1 : decode yB 1 = .ok (.istore 5, 2) := by decide +kernel
theorem d3 : decode yB 3 = .ok (.iload 5, 2) := by decide +kernel
theorem d5 : decode yB 5 = .ok (.iload 4, 2) := by decide +kernel
theorem d7 : decode yB 7 = .ok (.if_icmp (.ge) 37, 3) := by decide +kernel
theorem d10 : decode yB 10 = .ok (.aload_n 0, 1) := by decide +kernel
theorem d11 : decode yB 11 = .ok (.iload_n 1, 1) := by decide +kernel
theorem d12 : decode yB 12 = .ok (.caload, 1) := by decide +kernel
theorem d13 : decode yB 13 = .ok (.istore 6, 2) := by decide +kernel
theorem d15 : decode yB 15 = .ok (.iload 6, 2) := by decide +kernel
theorem d17 : decode yB 17 = .ok (.sipush 255, 3) := by decide +kernel
theorem d20 : decode yB 20 = .ok (.if_icmp (.le) 6, 3) := by decide +kernel
theorem d26 : decode yB 26 = .ok (.aload_n 2, 1) := by decide +kernel
theorem d27 : decode yB 27 = .ok (.iload_n 3, 1) := by decide +kernel
theorem d28 : decode yB 28 = .ok (.iload 6, 2) := by decide +kernel
theorem d30 : decode yB 30 = .ok (.i2b, 1) := by decide +kernel
theorem d31 : decode yB 31 = .ok (.bastore, 1) := by decide +kernel
theorem d32 : decode yB 32 = .ok (.iinc 1 1, 3) := by decide +kernel
theorem d35 : decode yB 35 = .ok (.iinc 3 1, 3) := by decide +kernel
theorem d38 : decode yB 38 = .ok (.iinc 5 1, 3) := by decide +kernel
theorem d41 : decode yB 41 = .ok (.goto (-38), 3) := by decide +kernel
theorem d44 : decode yB 44 = .ok (.iload 4, 2) := by decide +kernel
theorem d46 : decode yB 46 = .ok (.ireturn, 1) := by decide +kernel
def site : List Cond := []
def tab : Cond := tabOf yN yB 7 (some .int) site
def P (b : Addr) (A : Cell) (d : Addr) (B : Cell) (o q len : Nat) (args : Array Value) (s : State) : Prop := args = #[.ref b, .int (Int32.ofNat o), .ref d, .int (Int32.ofNat q), .int (Int32.ofNat len)] ∧ Ch b A s ∧ Arr .byte d B s ∧ b ≠ d ∧ o + len ≤ A.slots.size ∧ q + len ≤ B.slots.size ∧ ∀ i, i < len → ¬ 255 < cv A (o + i)
def E (b : Addr) (A : Cell) (d : Addr) (B : Cell) (o q len : Nat) (r : Option Value) (s u : State) : Prop := r = some (.int (Int32.ofNat len)) ∧ ∃ B', Put d B' s u ∧ Laid B B' q (q + len) (fun j => Value.int (lo8 (cv A (o + (j - q)))))
/-- no char of the range above 255: len; the places written hold each char's low byte -/
theorem law (l : Launch) (b : Addr) (A : Cell) (d : Addr) (B : Cell) (o q len : Nat) : Law l yN 5 5 0 0 yB 7 (some .int) site (P b A d B o q len) (E b A d B o q len) (copyLocs d q len) 0 0 := by
  refine Law.of_walk (plainFor_of_name (by decide +kernel)) (by decide +kernel) (by decide +kernel) (by decide) (fun _ _ h => by rw [h.1]; rfl) (fun _ U U' hal hh h => ⟨h.1, h.2.1.mv hal hh, h.2.2.1.mv hal hh, h.2.2.2⟩) (fun r U U' V V' h1 hal h2 h => ⟨h.1, h.2.elim fun B' q => ⟨B', q.1.mv h1 h2, q.2⟩⟩) ?_
  intro p e s m args below meth c s₁ X0 hexec hbytes hml hret hlk hnm hown hh0 W hP
  obtain ⟨rfl, hA, hB, hne, l1, l2, hp⟩ := hP
  have c1 : Steps p.tables e below (s₁.setTop (entryFrame m #[.ref b, .int (Int32.ofNat o), .ref d, .int (Int32.ofNat q), .int (Int32.ofNat len)] 7)) (s₁.setTop (mkF m 0 #[.val (.ref b), .val (.int (Int32.ofNat o)), .val (.ref d), .val (.int (Int32.ofNat q)), .val (.int (Int32.ofNat len)), .unset, .unset] [])) := entry rfl
  have hA0 := hA.1.mv X0.warmed.alike hh0
  have hB0 := hB.mv X0.warmed.alike hh0
  have a31 := hA.1.2.2.2
  have c2 : Steps p.tables e below (s₁.setTop (entryFrame m #[.ref b, .int (Int32.ofNat o), .ref d, .int (Int32.ofNat q), .int (Int32.ofNat len)] 7)) (s₁.setTop (mkF m 3 #[.val (.ref b), .val (.int (Int32.ofNat o)), .val (.ref d), .val (.int (Int32.ofNat q)), .val (.int (Int32.ofNat len)), .val (.int 0), .unset] [])) := c1.trans (by
    refine iconstV X0.here hexec rfl 0 (hb hbytes d0) (by decide) ?_
    refine XS.istore X0.here hexec rfl (hb hbytes d1) rfl rfl ?_
    exact Steps.refl _)
  have loop : ∀ (r i : Nat), i + r = len → ∀ (z : Slot), (z = .unset ∨ ∃ w, z = .val w ∧ w.category = 1) → ∀ (Tl : State) (Bk : Cell), Stand p l e { frames := 0, locals := 0, cells := 0, slots := 0 } s m #[.ref b, .int (Int32.ofNat o), .ref d, .int (Int32.ofNat q), .int (Int32.ofNat len)] below meth c Tl ([] ++ copyLocs d q i) 0 0 → Put d Bk s₁ Tl → Laid B Bk q (q + i) (fun j => Value.int (lo8 (cv A (o + (j - q))))) →
      Steps p.tables e below (s₁.setTop (entryFrame m #[.ref b, .int (Int32.ofNat o), .ref d, .int (Int32.ofNat q), .int (Int32.ofNat len)] 7)) (Tl.setTop (mkF m 3 #[.val (.ref b), .val (.int (Int32.ofNat (o + i))), .val (.ref d), .val (.int (Int32.ofNat (q + i))), .val (.int (Int32.ofNat len)), .val (.int (Int32.ofNat i)), z] [])) → ∃ (T' : State) (B' : Cell) (z' : Slot), Stand p l e { frames := 0, locals := 0, cells := 0, slots := 0 } s m #[.ref b, .int (Int32.ofNat o), .ref d, .int (Int32.ofNat q), .int (Int32.ofNat len)] below meth c T' ([] ++ copyLocs d q len) 0 0 ∧ Put d B' s₁ T' ∧ Laid B B' q (q + len) (fun j => Value.int (lo8 (cv A (o + (j - q))))) ∧
      Steps p.tables e below (s₁.setTop (entryFrame m #[.ref b, .int (Int32.ofNat o), .ref d, .int (Int32.ofNat q), .int (Int32.ofNat len)] 7)) (T'.setTop (mkF m 3 #[.val (.ref b), .val (.int (Int32.ofNat (o + len))), .val (.ref d), .val (.int (Int32.ofNat (q + len))), .val (.int (Int32.ofNat len)), .val (.int (Int32.ofNat len)), z'] [])) := by
    intro r
    induction r with
    | zero =>
      intro i hi z hz Tl Bk Xl pl fl cl
      have hil : i = len := by omega
      rw [hil] at Xl fl cl
      exact ⟨Tl, Bk, z, Xl, pl, fl, cl⟩
    | succ r ih =>
      intro i hi z hz Tl Bk Xl pl fl cl
      have all := X0.warmed.alike.symm.trans Xl.warmed.alike
      have hAl := hA0.keep all (pl.other hne hA0.1)
      have hBk := hB0.like all pl.1 fl.1 fl.2.1 fl.2.2.1
      have hlt : q + i < Bk.slots.size := by rw [fl.2.2.1]; omega
      have c3 : Steps p.tables e below (s₁.setTop (entryFrame m #[.ref b, .int (Int32.ofNat o), .ref d, .int (Int32.ofNat q), .int (Int32.ofNat len)] 7)) (Tl.setTop (mkF m 12 #[.val (.ref b), .val (.int (Int32.ofNat (o + i))), .val (.ref d), .val (.int (Int32.ofNat (q + i))), .val (.int (Int32.ofNat len)), .val (.int (Int32.ofNat i)), z] [.int (Int32.ofNat (o + i)), .ref b])) := cl.trans (by
        refine XS.iload Xl.here hexec rfl (hb hbytes d3) rfl ?_
        refine XS.iload Xl.here hexec rfl (hb hbytes d5) rfl ?_
        refine XS.icmpNo Xl.here hexec rfl (hb hbytes d7) rfl (ii_ge_f (lt32 (by omega) (by omega))) ?_
        refine XS.aloadN Xl.here hexec rfl (hb hbytes d10) rfl rfl ?_
        refine XS.iloadN Xl.here hexec rfl (hb hbytes d11) rfl ?_
        exact Steps.refl _)
      have c4 : Steps p.tables e below (s₁.setTop (entryFrame m #[.ref b, .int (Int32.ofNat o), .ref d, .int (Int32.ofNat q), .int (Int32.ofNat len)] 7)) (Tl.setTop (mkF m 13 #[.val (.ref b), .val (.int (Int32.ofNat (o + i))), .val (.ref d), .val (.int (Int32.ofNat (q + i))), .val (.int (Int32.ofNat len)), .val (.int (Int32.ofNat i)), z] [.int (cv A (o + i))])) := c3.trans (by
        refine Xl.aget hexec hAl rfl (hA.get (i := o + i) (by omega)) rfl rfl (hb hbytes d12) ?_
        exact Steps.refl _)
      have c5 : Steps p.tables e below (s₁.setTop (entryFrame m #[.ref b, .int (Int32.ofNat o), .ref d, .int (Int32.ofNat q), .int (Int32.ofNat len)] 7)) (Tl.setTop (mkF m 15 #[.val (.ref b), .val (.int (Int32.ofNat (o + i))), .val (.ref d), .val (.int (Int32.ofNat (q + i))), .val (.int (Int32.ofNat len)), .val (.int (Int32.ofNat i)), .val (.int (cv A (o + i)))] [])) := c4.trans (by
        refine XS.istoreS Xl.here hexec rfl (hb hbytes d13) rfl rfl hz ?_
        exact Steps.refl _)
      have c6 : Steps p.tables e below (s₁.setTop (entryFrame m #[.ref b, .int (Int32.ofNat o), .ref d, .int (Int32.ofNat q), .int (Int32.ofNat len)] 7)) (Tl.setTop (mkF m 31 #[.val (.ref b), .val (.int (Int32.ofNat (o + i))), .val (.ref d), .val (.int (Int32.ofNat (q + i))), .val (.int (Int32.ofNat len)), .val (.int (Int32.ofNat i)), .val (.int (cv A (o + i)))] [.int (lo8 (cv A (o + i))), .int (Int32.ofNat (q + i)), .ref d])) := c5.trans (by
        refine XS.iload Xl.here hexec rfl (hb hbytes d15) rfl ?_
        refine sipushV Xl.here hexec rfl 255 (hb hbytes d17) (by decide) ?_
        refine XS.icmpYes Xl.here hexec rfl (pc0 := 20) rfl (hb hbytes d20) rfl (ii_le_t (hp i (by omega))) (by decide) rfl ?_
        refine XS.aloadN Xl.here hexec rfl (hb hbytes d26) rfl rfl ?_
        refine XS.iloadN Xl.here hexec rfl (hb hbytes d27) rfl ?_
        refine XS.iload Xl.here hexec rfl (hb hbytes d28) rfl ?_
        refine i2b Xl.here hexec rfl (hb hbytes d30) rfl ?_
        exact Steps.refl _)
      obtain ⟨T7, X7, p7, st7⟩ := Xl.aput hexec hBk rfl hlt rfl (fits_lo8 (cv A (o + i))) (g := (mkF m 31 #[.val (.ref b), .val (.int (Int32.ofNat (o + i))), .val (.ref d), .val (.int (Int32.ofNat (q + i))), .val (.int (Int32.ofNat len)), .val (.int (Int32.ofNat i)), .val (.int (cv A (o + i)))] [.int (lo8 (cv A (o + i))), .int (Int32.ofNat (q + i)), .ref d])) rfl (rest := []) rfl (hb hbytes d31)
      have c8 : Steps p.tables e below (s₁.setTop (entryFrame m #[.ref b, .int (Int32.ofNat o), .ref d, .int (Int32.ofNat q), .int (Int32.ofNat len)] 7)) (T7.setTop (mkF m 32 #[.val (.ref b), .val (.int (Int32.ofNat (o + i))), .val (.ref d), .val (.int (Int32.ofNat (q + i))), .val (.int (Int32.ofNat len)), .val (.int (Int32.ofNat i)), .val (.int (cv A (o + i)))] [])) := c6.trans (st7 _ (Steps.refl _))
      have c9 : Steps p.tables e below (s₁.setTop (entryFrame m #[.ref b, .int (Int32.ofNat o), .ref d, .int (Int32.ofNat q), .int (Int32.ofNat len)] 7)) (T7.setTop (mkF m 3 #[.val (.ref b), .val (.int (Int32.ofNat (o + i) + 1)), .val (.ref d), .val (.int (Int32.ofNat (q + i) + 1)), .val (.int (Int32.ofNat len)), .val (.int (Int32.ofNat i + 1)), .val (.int (cv A (o + i)))] [])) := c8.trans (by
        refine iincV X7.here hexec rfl 1 (hb hbytes d32) (by decide) rfl rfl ?_
        refine iincV X7.here hexec rfl 1 (hb hbytes d35) (by decide) rfl rfl ?_
        refine iincV X7.here hexec rfl 1 (hb hbytes d38) (by decide) rfl rfl ?_
        refine XS.goto X7.here hexec rfl (pc0 := 41) rfl (hb hbytes d41) (by decide) rfl ?_
        exact Steps.refl _)
      have c10 : Steps p.tables e below (s₁.setTop (entryFrame m #[.ref b, .int (Int32.ofNat o), .ref d, .int (Int32.ofNat q), .int (Int32.ofNat len)] 7)) (T7.setTop (mkF m 3 #[.val (.ref b), .val (.int (Int32.ofNat (o + (i + 1)))), .val (.ref d), .val (.int (Int32.ofNat (q + (i + 1)))), .val (.int (Int32.ofNat len)), .val (.int (Int32.ofNat (i + 1))), .val (.int (cv A (o + i)))] [])) := by
        have := c9
        rw [succ32, succ32, succ32] at this
        exact this
      exact ih (i + 1) (by omega) _ (Or.inr ⟨_, rfl, rfl⟩) T7 _ (by rw [copyLocs_step, ← List.append_assoc]; exact X7) (pl.trans p7) (fl.step (by omega) hlt (by simp)) c10
  obtain ⟨T9, B9, z9, X9, p9, f9, g9⟩ := loop len 0 (by omega) .unset (Or.inl rfl) s₁ B (by simpa [copyLocs] using X0) ⟨hB0.1, fun _ _ => rfl, rfl⟩ (Laid.zero _ _ _) c2
  have c11 : Steps p.tables e below (s₁.setTop (entryFrame m #[.ref b, .int (Int32.ofNat o), .ref d, .int (Int32.ofNat q), .int (Int32.ofNat len)] 7)) (T9.setTop (mkF m 46 #[.val (.ref b), .val (.int (Int32.ofNat (o + len))), .val (.ref d), .val (.int (Int32.ofNat (q + len))), .val (.int (Int32.ofNat len)), .val (.int (Int32.ofNat len)), z9] [.int (Int32.ofNat len)])) := g9.trans (by
    refine XS.iload X9.here hexec rfl (hb hbytes d3) rfl ?_
    refine XS.iload X9.here hexec rfl (hb hbytes d5) rfl ?_
    refine XS.icmpYes X9.here hexec rfl (pc0 := 7) rfl (hb hbytes d7) rfl (ii_ge_t (nlt32 (by omega) (Nat.le_refl _))) (by decide) rfl ?_
    refine XS.iload X9.here hexec rfl (hb hbytes d44) rfl ?_
    exact Steps.refl _)
  exact ⟨T9, some (.int (Int32.ofNat len)), _, _, _, X9, by simp, rfl, rfl, (fun h => by cases h), ⟨rfl, B9, p9.from hh0, f9⟩, fun fs hl => c11.trans (X9.ireturnOut hexec hret rfl (Or.inl rfl) (hb hbytes d46) hl)⟩
end Cmp5
namespace Cmp3
def yN : MethodName := ⟨"java/lang/StringUTF16", "compress", "([CII)[B"⟩
abbrev yB : ByteArray := jdk_52_method_16_code
theorem d0 : decode yB 0 = .ok (.iload_n 2, 1) := by decide +kernel
theorem d1 : decode yB 1 = .ok (.newarray .byte, 2) := by decide +kernel
theorem d3 : decode yB 3 = .ok (.astore_n 3, 1) := by decide +kernel
theorem d4 : decode yB 4 = .ok (.aload_n 0, 1) := by decide +kernel
theorem d5 : decode yB 5 = .ok (.iload_n 1, 1) := by decide +kernel
theorem d6 : decode yB 6 = .ok (.aload_n 3, 1) := by decide +kernel
theorem d7 : decode yB 7 = .ok (.iconst 0, 1) := by decide +kernel
theorem d8 : decode yB 8 = .ok (.iload_n 2, 1) := by decide +kernel
theorem d9 : decode yB 9 = .ok (.invokestatic 115, 3) := by decide +kernel
theorem d12 : decode yB 12 = .ok (.istore 4, 2) := by decide +kernel
theorem d14 : decode yB 14 = .ok (.iload 4, 2) := by decide +kernel
theorem d16 : decode yB 16 = .ok (.iload_n 2, 1) := by decide +kernel
theorem d17 : decode yB 17 = .ok (.if_icmp (.eq) 40, 3) := by decide +kernel
theorem d57 : decode yB 57 = .ok (.aload_n 3, 1) := by decide +kernel
theorem d58 : decode yB 58 = .ok (.areturn, 1) := by decide +kernel
def site : List Cond := [.arrayClass .byte, Cmp5.tab] ++ staticW U16 115 Cmp5.yN
def tab : Cond := tabOf yN yB 6 (some (.array .byte)) site
def P (b : Addr) (A : Cell) (o len : Nat) (args : Array Value) (s : State) : Prop := args = #[.ref b, .int (Int32.ofNat o), .int (Int32.ofNat len)] ∧ Ch b A s ∧ o + len ≤ A.slots.size ∧ len ≤ 536870912 ∧ ∀ i, i < len → ¬ 255 < cv A (o + i)
def E (b : Addr) (A : Cell) (o len : Nat) (r : Option Value) (s u : State) : Prop := NewArr .byte "[B" len (fun j => .int (lo8 (cv A (o + j)))) r s u ∧ u.heap.size = s.heap.size + 1
/-- no char of the range above 255: a new byte[] of their low bytes -/
theorem law (l : Launch) (b : Addr) (A : Cell) (o len : Nat) : Law l yN 3 3 1 18 yB 6 (some (.array .byte)) site (P b A o len) (E b A o len) [] 1 len := by
  refine Law.of_walk (plainFor_of_name (by decide +kernel)) (by decide +kernel) (by decide +kernel) (by decide) (fun _ _ h => by rw [h.1]; rfl) (fun _ U U' hal hh h => ⟨h.1, h.2.1.mv hal hh, h.2.2⟩) (fun r U U' V V' h1 hal h2 h => ⟨NewArr.mv r U U' V V' h1 hal h2 h.1, by rw [h1, h2]; exact h.2⟩) ?_
  intro p e s m args below meth c s₁ X0 hexec hbytes hml hret hlk hnm hown hh0 W hP
  obtain ⟨rfl, hA, l1, l2, hp⟩ := hP
  have a31 := hA.1.2.2.2
  have c1 : Steps p.tables e below (s₁.setTop (entryFrame m #[.ref b, .int (Int32.ofNat o), .int (Int32.ofNat len)] 6)) (s₁.setTop (mkF m 0 #[.val (.ref b), .val (.int (Int32.ofNat o)), .val (.int (Int32.ofNat len)), .unset, .unset, .unset] [])) := entry rfl
  have c2 : Steps p.tables e below (s₁.setTop (entryFrame m #[.ref b, .int (Int32.ofNat o), .int (Int32.ofNat len)] 6)) (s₁.setTop (mkF m 1 #[.val (.ref b), .val (.int (Int32.ofNat o)), .val (.int (Int32.ofNat len)), .unset, .unset, .unset] [.int (Int32.ofNat len)])) := c1.trans (by
    refine XS.iloadN X0.here hexec rfl (hb hbytes d0) rfl ?_
    exact Steps.refl _)
  obtain ⟨T3, B3, X3, ba3, bs3, bv3, bh3, bf3, st3⟩ := X0.anew hexec (atype := .byte) (wk W (.arrayClass .byte)) rfl (by show len * 1 ≤ _; omega) (by omega) (g := (mkF m 1 #[.val (.ref b), .val (.int (Int32.ofNat o)), .val (.int (Int32.ofNat len)), .unset, .unset, .unset] [.int (Int32.ofNat len)])) rfl (hb hbytes d1) (rest := []) rfl (Nat.le_refl _) (by show 0 + len ≤ len; omega)
  rw [hh0] at ba3 st3
  have kp3 : XT.Kept s T3 := (XT.Kept.of_eq hh0).push bh3
  have hA3 := hA.keep X3.warmed.alike (kp3 _ _ hA.1.1)
  have hne : b ≠ s.heap.size := hA.1.ne
  have c4 : Steps p.tables e below (s₁.setTop (entryFrame m #[.ref b, .int (Int32.ofNat o), .int (Int32.ofNat len)] 6)) (T3.setTop (mkF m 3 #[.val (.ref b), .val (.int (Int32.ofNat o)), .val (.int (Int32.ofNat len)), .unset, .unset, .unset] [.ref s.heap.size])) := c2.trans (st3 _ (Steps.refl _))
  have c5 : Steps p.tables e below (s₁.setTop (entryFrame m #[.ref b, .int (Int32.ofNat o), .int (Int32.ofNat len)] 6)) (T3.setTop (mkF m 9 #[.val (.ref b), .val (.int (Int32.ofNat o)), .val (.int (Int32.ofNat len)), .val (.ref s.heap.size), .unset, .unset] [.int (Int32.ofNat len), .int 0, .ref s.heap.size, .int (Int32.ofNat o), .ref b])) := c4.trans (by
    refine XS.astoreN X3.here hexec rfl (hb hbytes d3) rfl rfl rfl ?_
    refine XS.aloadN X3.here hexec rfl (hb hbytes d4) rfl rfl ?_
    refine XS.iloadN X3.here hexec rfl (hb hbytes d5) rfl ?_
    refine XS.aloadN X3.here hexec rfl (hb hbytes d6) rfl rfl ?_
    refine iconstV X3.here hexec rfl 0 (hb hbytes d7) (by decide) ?_
    refine XS.iloadN X3.here hexec rfl (hb hbytes d8) rfl ?_
    exact Steps.refl _)
  obtain ⟨v6, T6, X6, E6, g6⟩ := X3.callS hexec (Cmp5.law l b A s.heap.size B3 o 0 len) hown (wks W (staticW U16 115 Cmp5.yN)) (wk W Cmp5.tab) (W := 0) (Nat.le_of_ble_eq_true rfl) (Nat.le_of_ble_eq_true rfl) (Nat.le_refl _) (by show 0 + len + 0 ≤ len; omega) (g := (mkF m 9 #[.val (.ref b), .val (.int (Int32.ofNat o)), .val (.int (Int32.ofNat len)), .val (.ref s.heap.size), .unset, .unset] [.int (Int32.ofNat len), .int (Int32.ofNat 0), .ref s.heap.size, .int (Int32.ofNat o), .ref b])) rfl (by rw [hml]; rfl) c5 (argsL := [.ref b, .int (Int32.ofNat o), .ref s.heap.size, .int (Int32.ofNat 0), .int (Int32.ofNat len)]) (rest := []) rfl rfl (by show 2 * 0 + 0 ≤ _; decide) (hb hbytes d9) (⟨rfl, hA3, ba3, hne, l1, by rw [bs3]; simp, hp⟩)
  obtain ⟨rfl, B6, p6, f6⟩ := E6
  have c7 : Steps p.tables e below (s₁.setTop (entryFrame m #[.ref b, .int (Int32.ofNat o), .int (Int32.ofNat len)] 6)) (T6.setTop (mkF m 12 #[.val (.ref b), .val (.int (Int32.ofNat o)), .val (.int (Int32.ofNat len)), .val (.ref s.heap.size), .unset, .unset] [.int (Int32.ofNat len)])) := g6
  have c8 : Steps p.tables e below (s₁.setTop (entryFrame m #[.ref b, .int (Int32.ofNat o), .int (Int32.ofNat len)] 6)) (T6.setTop (mkF m 58 #[.val (.ref b), .val (.int (Int32.ofNat o)), .val (.int (Int32.ofNat len)), .val (.ref s.heap.size), .val (.int (Int32.ofNat len)), .unset] [.ref s.heap.size])) := c7.trans (by
    refine XS.istore X6.here hexec rfl (hb hbytes d12) rfl rfl ?_
    refine XS.iload X6.here hexec rfl (hb hbytes d14) rfl ?_
    refine XS.iloadN X6.here hexec rfl (hb hbytes d16) rfl ?_
    refine XS.icmpYes X6.here hexec rfl (pc0 := 17) rfl (hb hbytes d17) rfl (ii_eq_t rfl) (by decide) rfl ?_
    refine XS.aloadN X6.here hexec rfl (hb hbytes d57) rfl rfl ?_
    exact Steps.refl _)
  have X8 := X6.wide (L' := []) (cells' := 1) (slots' := len) (fun x hx hlt => by
    simp only [List.nil_append, copyLocs, List.mem_map, List.mem_range] at hx
    obtain ⟨i, -, rfl⟩ := hx
    exact absurd hlt (Nat.lt_irrefl _)) (Nat.le_refl _) (by omega)
  exact ⟨T6, some (.ref s.heap.size), _, _, _, X8, rfl, rfl, rfl, (fun h => by cases h), ⟨⟨rfl, B6, ba3.like (X3.warmed.alike.symm.trans X6.warmed.alike) p6.1 f6.1 f6.2.1 f6.2.2.1, f6.2.1.trans bv3, by rw [X6.warmed.alike.findClass, f6.1]; exact bf3, by rw [f6.2.2.1, bs3]; simp, fun j hj => by rw [f6.2.2.2 j, if_pos (by omega)]; rfl, kp3.put p6 (Nat.le_refl _)⟩, by rw [p6.2.2, bh3, hh0]; simp⟩, fun fs hl => c8.trans (X8.areturnOut hexec rfl hret rfl (hb hbytes d58) hl)⟩
end Cmp3
namespace CodL
def yN : MethodName := ⟨"java/lang/StringUTF16", "coderFromArrayLen", "([BI)B"⟩
abbrev yB : ByteArray := jdk_52_method_15_code
theorem d0 : decode yB 0 = .ok (.iload_n 1, 1) := by decide +kernel
theorem d1 : decode yB 1 = .ok (.aload_n 0, 1) := by decide +kernel
theorem d2 : decode yB 2 = .ok (.arraylength, 1) := by decide +kernel
theorem d3 : decode yB 3 = .ok (.isub, 1) := by decide +kernel
theorem d4 : decode yB 4 = .ok (.bipush 31, 2) := by decide +kernel
theorem d6 : decode yB 6 = .ok (.iushr, 1) := by decide +kernel
theorem d7 : decode yB 7 = .ok (.i2b, 1) := by decide +kernel
theorem d8 : decode yB 8 = .ok (.ireturn, 1) := by decide +kernel
def site : List Cond := []
def tab : Cond := tabOf yN yB 2 (some .byte) site
def P (d : Addr) (B : Cell) (args : Array Value) (s : State) : Prop := args = #[.ref d, .int (Int32.ofNat B.slots.size)] ∧ Arr .byte d B s
def E (r : Option Value) (s u : State) : Prop := XT.PureE (some (.int 0)) r s u
/-- an array as long as the number of chars: LATIN1 -/
theorem law (l : Launch) (d : Addr) (B : Cell) : Law l yN 2 2 0 0 yB 2 (some .byte) site (P d B) E [] 0 0 := by
  refine Law.of_walk (plainFor_of_name (by decide +kernel)) (by decide +kernel) (by decide +kernel) (by decide) (fun _ _ h => by rw [h.1]; rfl) (fun _ U U' hal hh h => ⟨h.1, h.2.mv hal hh⟩) (fun r U U' V V' h1 hal h2 h => XT.PureE.mv r U U' V V' h1 hal h2 h) ?_
  intro p e s m args below meth c s₁ X0 hexec hbytes hml hret hlk hnm hown hh0 W hP
  obtain ⟨rfl, hB⟩ := hP
  have hB0 := hB.mv X0.warmed.alike hh0
  have c1 : Steps p.tables e below (s₁.setTop (entryFrame m #[.ref d, .int (Int32.ofNat B.slots.size)] 2)) (s₁.setTop (mkF m 0 #[.val (.ref d), .val (.int (Int32.ofNat B.slots.size))] [])) := entry rfl
  have c2 : Steps p.tables e below (s₁.setTop (entryFrame m #[.ref d, .int (Int32.ofNat B.slots.size)] 2)) (s₁.setTop (mkF m 2 #[.val (.ref d), .val (.int (Int32.ofNat B.slots.size))] [.ref d, .int (Int32.ofNat B.slots.size)])) := c1.trans (by
    refine XS.iloadN X0.here hexec rfl (hb hbytes d0) rfl ?_
    refine XS.aloadN X0.here hexec rfl (hb hbytes d1) rfl rfl ?_
    exact Steps.refl _)
  have c3 : Steps p.tables e below (s₁.setTop (entryFrame m #[.ref d, .int (Int32.ofNat B.slots.size)] 2)) (s₁.setTop (mkF m 8 #[.val (.ref d), .val (.int (Int32.ofNat B.slots.size))] [.int (lo8 (ushr (Int32.ofNat B.slots.size - Int32.ofNat B.slots.size) 31))])) := c2.trans (by
    refine X0.alen hexec hB0 rfl rfl (hb hbytes d2) ?_
    refine XS.isub X0.here hexec rfl (hb hbytes d3) rfl ?_
    refine bipushV X0.here hexec rfl 31 (hb hbytes d4) (by decide) ?_
    refine iushr X0.here hexec rfl (hb hbytes d6) rfl ?_
    refine i2b X0.here hexec rfl (hb hbytes d7) rfl ?_
    exact Steps.refl _)
  have e0 : lo8 (ushr (Int32.ofNat B.slots.size - Int32.ofNat B.slots.size) 31) = 0 := by rw [Int32.sub_self]; decide
  rw [e0] at c3
  exact ⟨s₁, some (.int 0), _, _, _, X0, rfl, rfl, rfl, (fun h => by cases h), ⟨rfl, hh0⟩, fun fs hl => c3.trans (X0.ireturnOut hexec hret rfl (Or.inr (Or.inr (Or.inl rfl))) (hb hbytes d8) hl)⟩
end CodL
/-- the String at a is Latin-1 over a new byte[] (the heap's one new cell): the low bytes of the len chars of A from o on; every cell but a is kept -/
def Got (a : Addr) (D : Cell) (fV fC : Field) (A : Cell) (o len : Nat) (r : Option Value) (s u : State) : Prop := r = none ∧ ∃ D' V : Cell, Blank "java/lang/String" a D' u ∧ Same D D' [fV.slot, fC.slot] ∧ D'.slots[fV.slot]? = some (.ref s.heap.size) ∧ D'.slots[fC.slot]? = some (.int 0) ∧ Arr .byte s.heap.size V u ∧ V.vm = .none ∧ u.vm.findClass "[B" = some V.cls ∧ V.slots.size = len ∧ (∀ j, j < len → V.slots[j]? = some (.int (lo8 (cv A (o + j))))) ∧ (∀ (y : Addr) (c : Cell), y ≠ a → s.heap[y]? = some c → u.heap[y]? = some c) ∧ u.heap.size = s.heap.size + 1
theorem Got.mv {a : Addr} {D A : Cell} {fV fC : Field} {o len : Nat} : ∀ r (U U' V V' : State), U'.heap = U.heap → V.vm.Alike V'.vm → V'.heap = V.heap → Got a D fV fC A o len r U V → Got a D fV fC A o len r U' V' :=
  fun r U U' V V' h1 hal h2 ⟨e0, D', X, a1, a2, a3, a4, a5, a6, a7, a8, a9, a10, a11⟩ => ⟨e0, D', X, a1.mv hal h2, a2, by rw [h1]; exact a3, a4, by rw [h1]; exact a5.mv hal h2, a6, by rw [hal.findClass]; exact a7, a8, a9, by rw [h1, h2]; exact a10, by rw [h1, h2]; exact a11⟩
namespace New4
def yN : MethodName := ⟨"java/lang/String", "<init>", "([CIILjava/lang/Void;)V"⟩
abbrev yB : ByteArray := jdk_42_method_149_code
theorem d0 : decode yB 0 = .ok (.aload_n 0, 1) := by decide +kernel
theorem d1 : decode yB 1 = .ok (.invokespecial 1, 3) := by decide +kernel
theorem d4 : decode yB 4 = .ok (.iload_n 3, 1) := by decide +kernel
theorem d5 : decode yB 5 = .ok (.ifCond (.ne) 22, 3) := by decide +kernel
theorem d27 : decode yB 27 = .ok (.getstatic 38, 3) := by decide +kernel
theorem d30 : decode yB 30 = .ok (.ifCond (.eq) 28, 3) := by decide +kernel
theorem d33 : decode yB 33 = .ok (.aload_n 1, 1) := by decide +kernel
theorem d34 : decode yB 34 = .ok (.iload_n 2, 1) := by decide +kernel
theorem d35 : decode yB 35 = .ok (.iload_n 3, 1) := by decide +kernel
theorem d36 : decode yB 36 = .ok (.invokestatic 177, 3) := by decide +kernel
theorem d39 : decode yB 39 = .ok (.astore 5, 2) := by decide +kernel
theorem d41 : decode yB 41 = .ok (.aload_n 0, 1) := by decide +kernel
theorem d42 : decode yB 42 = .ok (.aload 5, 2) := by decide +kernel
theorem d44 : decode yB 44 = .ok (.iload_n 3, 1) := by decide +kernel
theorem d45 : decode yB 45 = .ok (.invokestatic 47, 3) := by decide +kernel
theorem d48 : decode yB 48 = .ok (.putfield 15, 3) := by decide +kernel
theorem d51 : decode yB 51 = .ok (.aload_n 0, 1) := by decide +kernel
theorem d52 : decode yB 52 = .ok (.aload 5, 2) := by decide +kernel
theorem d54 : decode yB 54 = .ok (.putfield 9, 3) := by decide +kernel
theorem d57 : decode yB 57 = .ok (.return_, 1) := by decide +kernel
def site : List Cond := [.fieldLink "java/lang/String" 38 "java/lang/String" "COMPACT_STRINGS" "Z", Cmp3.tab, CodL.tab, .laysFinal "java/lang/String" "java/lang/String" "value" "[B", .fieldLink "java/lang/String" 9 "java/lang/String" "value" "[B", .laysFinal "java/lang/String" "java/lang/String" "coder" "B", .fieldLink "java/lang/String" 15 "java/lang/String" "coder" "B"] ++ objW "java/lang/String" 1 ++ staticW "java/lang/String" 177 Cmp3.yN ++ staticW "java/lang/String" 47 CodL.yN
def tab : Cond := tabOf yN yB 6 none site
def P (a : Addr) (D : Cell) (fV fC : Field) (b : Addr) (A : Cell) (z : Int32) (o len : Nat) (args : Array Value) (s : State) : Prop := args = #[.ref a, .ref b, .int (Int32.ofNat o), .int (Int32.ofNat len), .null] ∧ Blank "java/lang/String" a D s ∧ Found "java/lang/String" "value" "[B" fV s ∧ Found "java/lang/String" "coder" "B" fC s ∧ Ch b A s ∧ StaticIs s "java/lang/String" "COMPACT_STRINGS" "Z" (.int z) ∧ ¬ z = 0 ∧ 0 < len ∧ o + len ≤ A.slots.size ∧ len ≤ 536870912 ∧ ∀ i, i < len → ¬ 255 < cv A (o + i)
def E (a : Addr) (D : Cell) (fV fC : Field) (A : Cell) (o len : Nat) (r : Option Value) (s u : State) : Prop := Got a D fV fC A o len r s u
/-- len > 0, no char of the range above 255: a Latin-1 String of their low bytes -/
theorem law (l : Launch) (a : Addr) (D : Cell) (fV fC : Field) (b : Addr) (A : Cell) (z : Int32) (o len : Nat) : Law l yN 5 4 2 35 yB 6 none site (P a D fV fC b A z o len) (E a D fV fC A o len) [⟨a, fC.slot⟩, ⟨a, fV.slot⟩] 1 len := by
  refine Law.of_walk (plainFor_of_name (by decide +kernel)) (by decide +kernel) (by decide +kernel) (by decide) (fun _ _ h => by rw [h.1]; rfl) (fun _ U U' hal hh h => ⟨h.1, h.2.1.mv hal hh, h.2.2.1.al hal, h.2.2.2.1.al hal, h.2.2.2.2.1.mv hal hh, h.2.2.2.2.2.1.there hal hh, h.2.2.2.2.2.2⟩) (fun r U U' V V' h1 hal h2 h => Got.mv r U U' V V' h1 hal h2 h) ?_
  intro p e s m args below meth c s₁ X0 hexec hbytes hml hret hlk hnm hown hh0 W hP
  obtain ⟨rfl, hB, f1, f2, hA, s1, hz, l0, l1, l2, hp⟩ := hP
  have a31 := hA.1.2.2.2
  have c1 : Steps p.tables e below (s₁.setTop (entryFrame m #[.ref a, .ref b, .int (Int32.ofNat o), .int (Int32.ofNat len), .null] 6)) (s₁.setTop (mkF m 0 #[.val (.ref a), .val (.ref b), .val (.int (Int32.ofNat o)), .val (.int (Int32.ofNat len)), .val .null, .unset] [])) := entry rfl
  have c2 : Steps p.tables e below (s₁.setTop (entryFrame m #[.ref a, .ref b, .int (Int32.ofNat o), .int (Int32.ofNat len), .null] 6)) (s₁.setTop (mkF m 1 #[.val (.ref a), .val (.ref b), .val (.int (Int32.ofNat o)), .val (.int (Int32.ofNat len)), .val .null, .unset] [.ref a])) := c1.trans (by
    refine XS.aloadN X0.here hexec rfl (hb hbytes d0) rfl rfl ?_
    exact Steps.refl _)
  obtain ⟨T3, X3, q3, st3⟩ := X0.oinit hexec hown (wks W (objW "java/lang/String" 1)) (g := (mkF m 1 #[.val (.ref a), .val (.ref b), .val (.int (Int32.ofNat o)), .val (.int (Int32.ofNat len)), .val .null, .unset] [.ref a])) rfl (by rw [hml]; rfl) (rest := []) rfl (hb hbytes d1) (W := 0) (by show 2 * 0 + 0 ≤ _; decide) (Nat.le_of_ble_eq_true rfl) (Nat.le_of_ble_eq_true rfl)
  have hh3 := q3.trans hh0
  have c4 : Steps p.tables e below (s₁.setTop (entryFrame m #[.ref a, .ref b, .int (Int32.ofNat o), .int (Int32.ofNat len), .null] 6)) (T3.setTop (mkF m 27 #[.val (.ref a), .val (.ref b), .val (.int (Int32.ofNat o)), .val (.int (Int32.ofNat len)), .val .null, .unset] [])) := (c2.trans (st3 _ (Steps.refl _))).trans (by
    refine XS.iloadN X3.here hexec rfl (hb hbytes d4) rfl ?_
    refine XS.ifYes X3.here hexec rfl (pc0 := 5) rfl (hb hbytes d5) rfl (i0_ne_t (nz32 (by omega) l0)) (by decide) rfl ?_
    exact Steps.refl _)
  obtain ⟨T5, X5, q5, st5⟩ := X3.sget hexec hown (wk W (.fieldLink "java/lang/String" 38 "java/lang/String" "COMPACT_STRINGS" "Z")) s1 (fun _ _ h => by rw [hh3]; exact h) (g := (mkF m 27 #[.val (.ref a), .val (.ref b), .val (.int (Int32.ofNat o)), .val (.int (Int32.ofNat len)), .val .null, .unset] [])) rfl (hb hbytes d27)
  have hh5 := q5.trans hh3
  have c6 : Steps p.tables e below (s₁.setTop (entryFrame m #[.ref a, .ref b, .int (Int32.ofNat o), .int (Int32.ofNat len), .null] 6)) (T5.setTop (mkF m 30 #[.val (.ref a), .val (.ref b), .val (.int (Int32.ofNat o)), .val (.int (Int32.ofNat len)), .val .null, .unset] [.int z])) := c4.trans (st5 _ (Steps.refl _))
  have c7 : Steps p.tables e below (s₁.setTop (entryFrame m #[.ref a, .ref b, .int (Int32.ofNat o), .int (Int32.ofNat len), .null] 6)) (T5.setTop (mkF m 36 #[.val (.ref a), .val (.ref b), .val (.int (Int32.ofNat o)), .val (.int (Int32.ofNat len)), .val .null, .unset] [.int (Int32.ofNat len), .int (Int32.ofNat o), .ref b])) := c6.trans (by
    refine XS.ifNo X5.here hexec rfl (hb hbytes d30) rfl (i0_eq_f hz) ?_
    refine XS.aloadN X5.here hexec rfl (hb hbytes d33) rfl rfl ?_
    refine XS.iloadN X5.here hexec rfl (hb hbytes d34) rfl ?_
    refine XS.iloadN X5.here hexec rfl (hb hbytes d35) rfl ?_
    exact Steps.refl _)
  obtain ⟨v8, T8, X8, E8, g8⟩ := X5.callS hexec (Cmp3.law l b A o len) hown (wks W (staticW "java/lang/String" 177 Cmp3.yN)) (wk W Cmp3.tab) (W := 0) (Nat.le_of_ble_eq_true rfl) (Nat.le_of_ble_eq_true rfl) (Nat.le_refl _) (by show 0 + len ≤ len; omega) (g := (mkF m 36 #[.val (.ref a), .val (.ref b), .val (.int (Int32.ofNat o)), .val (.int (Int32.ofNat len)), .val .null, .unset] [.int (Int32.ofNat len), .int (Int32.ofNat o), .ref b])) rfl (by rw [hml]; rfl) c7 (argsL := [.ref b, .int (Int32.ofNat o), .int (Int32.ofNat len)]) (rest := []) rfl rfl (by show 2 * 0 + 0 ≤ _; decide) (hb hbytes d36) (⟨rfl, hA.mv X5.warmed.alike hh5, l1, l2, hp⟩)
  obtain ⟨e8, z8⟩ := E8
  obtain ⟨rfl, N, n1, n2, n3, n4, n5, n6⟩ := NewArr.mv _ T5 s _ _ hh5.symm (Vm.Alike.refl _) rfl e8
  rw [hh5] at z8
  have hB1 := hB.keep X8.warmed.alike (n6 _ _ hB.1)
  have hne : s.heap.size ≠ a := (Nat.ne_of_lt (Array.getElem?_eq_some_iff.mp hB.1).1).symm
  have c9 : Steps p.tables e below (s₁.setTop (entryFrame m #[.ref a, .ref b, .int (Int32.ofNat o), .int (Int32.ofNat len), .null] 6)) (T8.setTop (mkF m 39 #[.val (.ref a), .val (.ref b), .val (.int (Int32.ofNat o)), .val (.int (Int32.ofNat len)), .val .null, .unset] [.ref s.heap.size])) := g8
  have c10 : Steps p.tables e below (s₁.setTop (entryFrame m #[.ref a, .ref b, .int (Int32.ofNat o), .int (Int32.ofNat len), .null] 6)) (T8.setTop (mkF m 45 #[.val (.ref a), .val (.ref b), .val (.int (Int32.ofNat o)), .val (.int (Int32.ofNat len)), .val .null, .val (.ref s.heap.size)] [.int (Int32.ofNat N.slots.size), .ref s.heap.size, .ref a])) := by
    have hc : Steps p.tables e below (s₁.setTop (entryFrame m #[.ref a, .ref b, .int (Int32.ofNat o), .int (Int32.ofNat len), .null] 6)) (T8.setTop (mkF m 45 #[.val (.ref a), .val (.ref b), .val (.int (Int32.ofNat o)), .val (.int (Int32.ofNat len)), .val .null, .val (.ref s.heap.size)] [.int (Int32.ofNat len), .ref s.heap.size, .ref a])) := c9.trans (by
      refine XS.astore X8.here hexec rfl (hb hbytes d39) rfl rfl rfl ?_
      refine XS.aloadN X8.here hexec rfl (hb hbytes d41) rfl rfl ?_
      refine XS.aload X8.here hexec rfl (hb hbytes d42) rfl rfl ?_
      refine XS.iloadN X8.here hexec rfl (hb hbytes d44) rfl ?_
      exact Steps.refl _)
    rw [n4]; exact hc
  obtain ⟨v11, T11, X11, E11, g11⟩ := X8.callS hexec (CodL.law l s.heap.size N) hown (wks W (staticW "java/lang/String" 47 CodL.yN)) (wk W CodL.tab) (W := 1) (Nat.le_of_ble_eq_true rfl) (Nat.le_of_ble_eq_true rfl) (Nat.le_refl _) (by show 0 + len + 0 ≤ len; omega) (g := (mkF m 45 #[.val (.ref a), .val (.ref b), .val (.int (Int32.ofNat o)), .val (.int (Int32.ofNat len)), .val .null, .val (.ref s.heap.size)] [.int (Int32.ofNat N.slots.size), .ref s.heap.size, .ref a])) rfl (by rw [hml]; rfl) c10 (argsL := [.ref s.heap.size, .int (Int32.ofNat N.slots.size)]) (rest := [.ref a]) rfl rfl (by show 2 * 0 + (1 + 0) ≤ _; decide) (hb hbytes d45) (⟨rfl, n1⟩)
  obtain ⟨rfl, q11⟩ := E11
  have hB11 := hB1.mv (X8.warmed.alike.symm.trans X11.warmed.alike) q11
  have c12 : Steps p.tables e below (s₁.setTop (entryFrame m #[.ref a, .ref b, .int (Int32.ofNat o), .int (Int32.ofNat len), .null] 6)) (T11.setTop (mkF m 48 #[.val (.ref a), .val (.ref b), .val (.int (Int32.ofNat o)), .val (.int (Int32.ofNat len)), .val .null, .val (.ref s.heap.size)] [.int 0, .ref a])) := g11
  obtain ⟨T13, X13, p13, bl13, sl13, st13⟩ := X11.finit hexec hown (wk W (.fieldLink "java/lang/String" 15 "java/lang/String" "coder" "B")) (Or.inr ⟨_, (wk W (.laysFinal "java/lang/String" "java/lang/String" "coder" "B"))⟩) (Or.inl ⟨rfl, hnm⟩) f2 (Or.inl rfl) hB11 (t := .byte) (by decide +kernel) rfl (g := (mkF m 48 #[.val (.ref a), .val (.ref b), .val (.int (Int32.ofNat o)), .val (.int (Int32.ofNat len)), .val .null, .val (.ref s.heap.size)] [.int 0, .ref a])) rfl (rest := []) rfl (hb hbytes d48)
  have c14 : Steps p.tables e below (s₁.setTop (entryFrame m #[.ref a, .ref b, .int (Int32.ofNat o), .int (Int32.ofNat len), .null] 6)) (T13.setTop (mkF m 54 #[.val (.ref a), .val (.ref b), .val (.int (Int32.ofNat o)), .val (.int (Int32.ofNat len)), .val .null, .val (.ref s.heap.size)] [.ref s.heap.size, .ref a])) := (c12.trans (st13 _ (Steps.refl _))).trans (by
    refine XS.aloadN X13.here hexec rfl (hb hbytes d51) rfl rfl ?_
    refine XS.aload X13.here hexec rfl (hb hbytes d52) rfl rfl ?_
    exact Steps.refl _)
  obtain ⟨T15, X15, p15, bl15, sl15, st15⟩ := X13.finit hexec hown (wk W (.fieldLink "java/lang/String" 9 "java/lang/String" "value" "[B")) (Or.inr ⟨_, (wk W (.laysFinal "java/lang/String" "java/lang/String" "value" "[B"))⟩) (Or.inl ⟨rfl, hnm⟩) f1 (Or.inl rfl) bl13 (t := (.array .byte)) (by decide +kernel) rfl (g := (mkF m 54 #[.val (.ref a), .val (.ref b), .val (.int (Int32.ofNat o)), .val (.int (Int32.ofNat len)), .val .null, .val (.ref s.heap.size)] [.ref s.heap.size, .ref a])) rfl (rest := []) rfl (hb hbytes d54)
  have c16 : Steps p.tables e below (s₁.setTop (entryFrame m #[.ref a, .ref b, .int (Int32.ofNat o), .int (Int32.ofNat len), .null] 6)) (T15.setTop (mkF m 57 #[.val (.ref a), .val (.ref b), .val (.int (Int32.ofNat o)), .val (.int (Int32.ofNat len)), .val .null, .val (.ref s.heap.size)] [])) := c14.trans (st15 _ (Steps.refl _))
  have ap := apart (Or.inr ⟨_, (wk W (.laysFinal "java/lang/String" "java/lang/String" "value" "[B"))⟩) (Or.inr ⟨_, (wk W (.laysFinal "java/lang/String" "java/lang/String" "coder" "B"))⟩) f1 f2 (t₁ := .array .byte) (t₂ := .byte) (by decide +kernel) (by decide +kernel) (by decide)
  have al := X8.warmed.alike.symm.trans X15.warmed.alike
  have n7 : T11.heap[s.heap.size]? = some N := by rw [q11]; exact n1.1
  exact ⟨T15, none, _, _, _, X15, by simp, rfl, by omega, (fun _ => rfl), ⟨rfl, _, N, bl15, ((Same.refl D _).set _ (by simp)).set _ (by simp), sl15, (Cell.slots_setSlot_ne _ ap).trans sl13, n1.keep al (p15.other hne (p13.other hne n7)), n2, by rw [al.findClass]; exact n3, n4, n5, fun y c h1 h2 => p15.other h1 (p13.other h1 (by rw [q11]; exact n6 y c h2)), by rw [p15.2.2, p13.2.2, q11]; exact z8⟩, fun fs hl => c16.trans (X15.returnOut hexec hret (hb hbytes d57) hl)⟩
end New4
namespace New1
def yN : MethodName := ⟨"java/lang/String", "<init>", "([C)V"⟩
abbrev yB : ByteArray := jdk_42_method_3_code
theorem d0 : decode yB 0 = .ok (.aload_n 0, 1) := by decide +kernel
theorem d1 : decode yB 1 = .ok (.aload_n 1, 1) := by decide +kernel
theorem d2 : decode yB 2 = .ok (.iconst 0, 1) := by decide +kernel
theorem d3 : decode yB 3 = .ok (.aload_n 1, 1) := by decide +kernel
theorem d4 : decode yB 4 = .ok (.arraylength, 1) := by decide +kernel
theorem d5 : decode yB 5 = .ok (.aconst_null, 1) := by decide +kernel
theorem d6 : decode yB 6 = .ok (.invokespecial 27, 3) := by decide +kernel
theorem d9 : decode yB 9 = .ok (.return_, 1) := by decide +kernel
def site : List Cond := [New4.tab] ++ initW "java/lang/String" 27 New4.yN
def tab : Cond := tabOf yN yB 2 none site
def P (a : Addr) (D : Cell) (fV fC : Field) (b : Addr) (A : Cell) (z : Int32) (args : Array Value) (s : State) : Prop := args = #[.ref a, .ref b] ∧ Blank "java/lang/String" a D s ∧ Found "java/lang/String" "value" "[B" fV s ∧ Found "java/lang/String" "coder" "B" fC s ∧ Ch b A s ∧ StaticIs s "java/lang/String" "COMPACT_STRINGS" "Z" (.int z) ∧ ¬ z = 0 ∧ 0 < A.slots.size ∧ A.slots.size ≤ 536870912 ∧ ∀ i, i < A.slots.size → ¬ 255 < cv A i
def E (a : Addr) (D : Cell) (fV fC : Field) (A : Cell) (r : Option Value) (s u : State) : Prop := Got a D fV fC A 0 A.slots.size r s u
/-- new String(chars), not empty, no char above 255: a Latin-1 String of their low bytes -/
theorem law (l : Launch) (a : Addr) (D : Cell) (fV fC : Field) (b : Addr) (A : Cell) (z : Int32) : Law l yN 2 1 3 52 yB 2 none site (P a D fV fC b A z) (E a D fV fC A) [⟨a, fC.slot⟩, ⟨a, fV.slot⟩] 1 A.slots.size := by
  refine Law.of_walk (plainFor_of_name (by decide +kernel)) (by decide +kernel) (by decide +kernel) (by decide) (fun _ _ h => by rw [h.1]; rfl) (fun _ U U' hal hh h => ⟨h.1, h.2.1.mv hal hh, h.2.2.1.al hal, h.2.2.2.1.al hal, h.2.2.2.2.1.mv hal hh, h.2.2.2.2.2.1.there hal hh, h.2.2.2.2.2.2⟩) (fun r U U' V V' h1 hal h2 h => Got.mv r U U' V V' h1 hal h2 h) ?_
  intro p e s m args below meth c s₁ X0 hexec hbytes hml hret hlk hnm hown hh0 W hP
  obtain ⟨rfl, hB, f1, f2, hA, s1, hz, l0, l2, hp⟩ := hP
  have c1 : Steps p.tables e below (s₁.setTop (entryFrame m #[.ref a, .ref b] 2)) (s₁.setTop (mkF m 0 #[.val (.ref a), .val (.ref b)] [])) := entry rfl
  have c2 : Steps p.tables e below (s₁.setTop (entryFrame m #[.ref a, .ref b] 2)) (s₁.setTop (mkF m 6 #[.val (.ref a), .val (.ref b)] [.null, .int (Int32.ofNat A.slots.size), .int 0, .ref b, .ref a])) := c1.trans (by
    refine XS.aloadN X0.here hexec rfl (hb hbytes d0) rfl rfl ?_
    refine XS.aloadN X0.here hexec rfl (hb hbytes d1) rfl rfl ?_
    refine iconstV X0.here hexec rfl 0 (hb hbytes d2) (by decide) ?_
    refine XS.aloadN X0.here hexec rfl (hb hbytes d3) rfl rfl ?_
    refine X0.alen hexec (hA.1.mv X0.warmed.alike hh0) rfl rfl (hb hbytes d4) ?_
    refine XS.aconstNull X0.here hexec rfl (hb hbytes d5) ?_
    exact Steps.refl _)
  obtain ⟨v3, T3, X3, E3, g3⟩ := X0.callN hexec (New4.law l a D fV fC b A z 0 A.slots.size) rfl hown (wks W (initW "java/lang/String" 27 New4.yN)) (W New4.tab (by simp only [site, List.mem_cons, List.mem_append, true_or, or_true])) (W := 0) (Nat.le_of_ble_eq_true rfl) (Nat.le_of_ble_eq_true rfl) (Nat.le_refl _) (by show 0 + A.slots.size ≤ A.slots.size; omega) (g := (mkF m 6 #[.val (.ref a), .val (.ref b)] [.null, .int (Int32.ofNat A.slots.size), .int (Int32.ofNat 0), .ref b, .ref a])) rfl (by rw [hml]; rfl) c2 (argsL := [.ref b, .int (Int32.ofNat 0), .int (Int32.ofNat A.slots.size), .null]) (rest := []) rfl rfl (by show 2 * 0 + 0 ≤ _; decide) (hb hbytes d6) (⟨rfl, hB.mv X0.warmed.alike hh0, f1.al X0.warmed.alike, f2.al X0.warmed.alike, hA.mv X0.warmed.alike hh0, s1.there X0.warmed.alike hh0, hz, l0, by omega, l2, fun i hi => by rw [Nat.zero_add]; exact hp i hi⟩)
  have e0 := Got.mv _ s₁ s _ _ hh0.symm (Vm.Alike.refl _) rfl E3
  obtain rfl := e0.1
  have c4 : Steps p.tables e below (s₁.setTop (entryFrame m #[.ref a, .ref b] 2)) (T3.setTop (mkF m 9 #[.val (.ref a), .val (.ref b)] [])) := g3
  exact ⟨T3, none, _, _, _, X3, by simp, rfl, by omega, (fun _ => rfl), e0, fun fs hl => c4.trans (X3.returnOut hexec hret (hb hbytes d9) hl)⟩
theorem pays {l : Launch} {R : Room} {p : Program} {e : Env} {below : List Frame} {s : State} {sargs : Array Value} {len W : Nat} (a : Addr) (D : Cell) (fV fC : Field) (b : Addr) (A : Cell) (z : Int32) (htab : tab.before sargs s = true) (hfr : 4 ≤ R.frames) (hlo : W + 65 ≤ R.locals) :
    Back l R p e below s sargs yN len W (fun A₁ a₁ => A₁.cells + 1 ≤ R.cells ∧ A₁.slots + A.slots.size ≤ R.slots ∧ P a D fV fC b A z a₁ A₁.U) (fun A₁ _ v₁ B₁ => E a D fV fC A v₁ A₁.U B₁.U ∧ B₁.locs = A₁.locs ++ [⟨a, fC.slot⟩, ⟨a, fV.slot⟩] ∧ B₁.cells = A₁.cells + 1 ∧ B₁.slots = A₁.slots + A.slots.size) :=
  (law l a D fV fC b A z).pays htab hfr (by omega)
end New1
/-- the byte, read back as charAt reads it, is the char -/
theorem lo8_mask {x : Int32} (h0 : ¬ x < 0) (h1 : ¬ 255 < x) : lo8 x &&& 255 = x := by
  have t : ∀ k : Fin 256, lo8 (Int32.ofNat k.val) &&& 255 = Int32.ofNat k.val := by decide +kernel
  rw [Int32.lt_iff_toInt_lt] at h0 h1
  have e0 : (0 : Int32).toInt = 0 := rfl
  have e1 : (255 : Int32).toInt = 255 := rfl
  obtain ⟨k, hk⟩ : ∃ k : Nat, x.toInt = k := ⟨x.toInt.toNat, by omega⟩
  have hx : x = Int32.ofNat k := Int32.toInt_inj.mp (by rw [hk, Int32.toInt_ofNat_small (by omega)])
  rw [hx]
  exact t ⟨k, by omega⟩
end StrChars
namespace StrChars.Road
open Jvm Sem ClassFile Op Lib Jvm.Stand Jvm.Free Jvm.Free.XT
open Jvm.Lib.Cold (StaticIs)
abbrev ST : String := "java/lang/String"
/-- every table word that New1's law asks, flat -/
abbrev words : List Jvm.Cond := [.code New1.yN New1.yB 2 none, .initialized ST, .methodLink ST 27 New4.yN, .instanceMethod New4.yN,
  .code New4.yN New4.yB 6 none, .fieldLink ST 38 ST "COMPACT_STRINGS" "Z", .laysFinal ST ST "value" "[B", .fieldLink ST 9 ST "value" "[B", .laysFinal ST ST "coder" "B", .fieldLink ST 15 ST "coder" "B",
  .methodLink ST 1 Lib.objectInit, .instanceMethod Lib.objectInit, .code Lib.objectInit ⟨#[0xb1]⟩ 1 none, .methodLink ST 177 Cmp3.yN, .static Cmp3.yN, .methodLink ST 47 CodL.yN, .static CodL.yN,
  .code Cmp3.yN Cmp3.yB 6 (some (.array .byte)), .initialized U16, .arrayClass .byte, .methodLink U16 115 Cmp5.yN, .static Cmp5.yN, .code Cmp5.yN Cmp5.yB 7 (some .int), .code CodL.yN CodL.yB 2 (some .byte)]
theorem tab_of {a : Array Value} {s : State} (h : ∀ w ∈ words, w.before a s = true) : New1.tab.before a s = true := by
  have h5 : Cmp5.tab.before a s = true := unparts (wk h (.code Cmp5.yN Cmp5.yB 7 (some .int))) (wks h (.initialized Cmp5.yN.cls :: Cmp5.site))
  have hc : CodL.tab.before a s = true := unparts (wk h (.code CodL.yN CodL.yB 2 (some .byte))) (wks h (.initialized CodL.yN.cls :: CodL.site))
  have q5 : ∀ w ∈ Cmp5.tab :: words, w.before a s = true := fun w hw => (List.mem_cons.mp hw).elim (fun e => e ▸ h5) (h w)
  have h3 : Cmp3.tab.before a s = true := unparts (wk q5 (.code Cmp3.yN Cmp3.yB 6 (some (.array .byte)))) (wks q5 (.initialized Cmp3.yN.cls :: Cmp3.site))
  have q3 : ∀ w ∈ Cmp3.tab :: CodL.tab :: words, w.before a s = true := fun w hw => (List.mem_cons.mp hw).elim (fun e => e ▸ h3) fun hw => (List.mem_cons.mp hw).elim (fun e => e ▸ hc) (h w)
  have h4 : New4.tab.before a s = true := unparts (wk q3 (.code New4.yN New4.yB 6 none)) (wks q3 (.initialized New4.yN.cls :: New4.site))
  have q4 : ∀ w ∈ New4.tab :: words, w.before a s = true := fun w hw => (List.mem_cons.mp hw).elim (fun e => e ▸ h4) (h w)
  exact unparts (wk q4 (.code New1.yN New1.yB 2 none)) (wks q4 (.initialized New1.yN.cls :: New1.site))
/-- the words ride from the start Z to the walk's own state -/
theorem moved {Z s : State} {a0 args : Array Value} (hZ : Z.Warmed39 s.vm) (hw : ∀ d ∈ words, d.before a0 Z = true) : ∀ d ∈ words, d.before args s = true := fun d hd => by
  have q := hw d hd
  have t : ∀ d ∈ words, d = .arrayClass .byte ∨ (d.onTables && d.keepsFace) = true := by decide +kernel
  rcases t d hd with rfl | t
  · exact RoadKit.mvA hZ q
  · exact RoadKit.mv hZ q t
/-- WHAT COMES BACK, over the tables of the start Z: h the heap at the call, h' behind it -/
def Q (Z : State) (x : Addr) (A : Cell) (h : Heap) (v : Option Value) (h' : Heap) (L : List Loc) : Prop := v = none ∧ (∀ y ∈ L, y.base = x) ∧ RoadKit.Keep h h' [x] ∧ h'.size = h.size + 1 ∧ RoadKit.Exa Z h' x ST ∧ RoadKit.Fld Z h' x ST "value" "[B" (.ref h.size) ∧ RoadKit.Fld Z h' x ST "coder" "B" (.int 0) ∧
  (∃ V : Cell, RoadKit.Arr Z h' h.size V .byte ∧ V.vm = .none ∧ Z.vm.findClass "[B" = some V.cls ∧ V.slots.size = A.slots.size ∧ ∀ j, j < A.slots.size → V.slots[j]? = some (.int (lo8 (cv A j)))) ∧
  ∀ (O n d : String) (w : Value), RoadKit.Fld Z h x O n d w → RoadKit.slotOf Z O n d ≠ RoadKit.slotOf Z ST "value" "[B" → RoadKit.slotOf Z O n d ≠ RoadKit.slotOf Z ST "coder" "B" → RoadKit.Fld Z h' x O n d w
/-- **new String(chars) AT A CALL, IN THE ROAD'S FORM**: for specialBack behind newO: x the fresh String, b the char[] with the cell A -/
theorem back {p : Program} {l : Launch} {e : Env} {R : Room} {s : State} {args : Array Value} {below : List Frame} {len W : Nat} {Z : State} {a0 : Array Value} {h : Heap} (hZ : Z.Warmed39 s.vm) (hw : ∀ d ∈ words, d.before a0 Z = true) {kI : Nat} (wi : (Jvm.Cond.instantiable ST kI).before a0 Z = true)
    {x b : Addr} {A : Cell} {z : Int32} {v0 c0 : Value} (E : RoadKit.Exa Z h x ST) (V : RoadKit.Fld Z h x ST "value" "[B" v0) (C : RoadKit.Fld Z h x ST "coder" "B" c0) (K : RoadKit.Arr Z h b A .char) (hty : Typed .char A) (S : RoadKit.Sta Z h ST "COMPACT_STRINGS" "Z" (.int z)) (hz : ¬ z = 0)
    (l0 : 0 < A.slots.size) (l2 : A.slots.size ≤ 536870912) (hp : ∀ i, i < A.slots.size → ¬ 255 < cv A i) (hfr : 4 ≤ R.frames) (hlo : W + 65 ≤ R.locals) :
    Back l R p e below s args New1.yN len W (fun P a => a = #[.ref x, .ref b] ∧ P.U.heap = h ∧ P.cells + 1 ≤ R.cells ∧ P.slots + A.slots.size ≤ R.slots)
      (fun P _ v B => ∃ L, Q Z x A h v B.U.heap L ∧ B.locs = P.locs ++ L ∧ B.cells = P.cells + 1 ∧ B.slots = P.slots + A.slots.size) := by
  intro m meth c P g ig mk a X hg hsize hdg hW hn hp'
  obtain ⟨rfl, rfl, r1, r2⟩ := hp'
  have al : Z.vm.Alike P.U.vm := hZ.alike.trans X.warmed.alike
  obtain ⟨D, cfV, kV, iV, fV, hD, gV, stV, knV, obV, asV, slV⟩ := id V
  obtain ⟨D', cfC, kC, iC, fC, hD', gC, stC, -, -, asC, slC⟩ := id C
  cases hD.symm.trans hD'
  obtain ⟨D2, kD, e1, e2, e3, e4, e5⟩ := id E
  cases hD.symm.trans e1
  obtain ⟨c2, k2, i1, i2, i3, -⟩ := Cond.instantiable_spec wi
  cases e2.symm.trans i1
  cases e3.symm.trans i2
  obtain ⟨kU, u1, u2⟩ := al.2.2 _ _ e3
  have hB : Blank ST x D P.U := ⟨hD, ⟨knV, fun q hq => by rw [hq] at obV; cases obV⟩, by rw [al.findClass]; exact e2, kU, u1, by rw [u2]; exact i3, by rw [u2]; exact e5 i3⟩
  have F1 : Found ST "value" "[B" fV P.U := ⟨SBG.found_only al ⟨cfV, kV, iV, gV⟩, stV⟩
  have F2 : Found ST "coder" "B" fC P.U := ⟨SBG.found_only al ⟨cfC, kC, iC, gC⟩, stC⟩
  have hA : Ch b A P.U := ⟨⟨K.1, State.isArrayOf_alike al K.2.1, K.2.2, by omega⟩, hty⟩
  have hS : StaticIs P.U ST "COMPACT_STRINGS" "Z" (.int z) := by
    obtain ⟨cfS, iS, kS, fS, st, cS, t1, t2, t3, t4, t5, t6, t7⟩ := S
    exact StaticIs.there (s := { Z with heap := P.U.heap }) ⟨cfS, iS, kS, fS, st, cS, t1, t2, t3, t4, t5, (fun q => by rw [q] at t6; cases t6), t7⟩ al rfl
  obtain ⟨v, B, X', ⟨⟨hv, E', V', q1, q2, q3, q4, q5, q6, q7, q8, q9, q10, q11⟩, hl, hc, hs⟩, st⟩ := New1.pays x D fV fC b A z (tab_of (moved hZ hw)) hfr hlo m meth c P g ig mk _ X hg hsize hdg hW hn ⟨r1, r2, rfl, hB, F1, F2, hA, hS, hz, l0, l2, hp⟩
  have al' : Z.vm.Alike B.U.vm := hZ.alike.trans X'.warmed.alike
  have hsz : E'.slots.size = D.slots.size := by
    obtain ⟨-, -, -, kB, w1, w2, w3⟩ := q1
    obtain ⟨kB', y1, y2⟩ := al'.2.2 _ _ e3
    rw [q2.2.1] at w1
    cases w1.symm.trans y1
    rw [w3, e5 i3, y2]
  refine ⟨v, B, X', ⟨_, ⟨hv, ?_, ⟨by omega, fun y cy hy hn' => q10 y cy (by simpa using hn') hy, fun y cy hy => ?_⟩, q11, ⟨E', _, q1.1, by rw [q2.2.1]; exact e2, by rw [q2.2.1]; exact e3, by rw [q2.1]; exact obV, fun _ => by rw [hsz]; exact e5 i3⟩,
    ⟨E', cfV, kV, iV, fV, q1.1, gV, stV, by rw [q2.1]; exact knV, by rw [q2.1]; exact obV, by rw [q2.2.1]; exact asV, q3⟩, ⟨E', cfC, kC, iC, fC, q1.1, gC, stC, by rw [q2.1]; exact knV, by rw [q2.1]; exact obV, by rw [q2.2.1]; exact asC, q4⟩,
    ⟨V', ⟨q5.1, State.isArrayOf_alike al'.symm q5.2.1, q5.2.2.1⟩, q6, by rw [← al'.findClass]; exact q7, q8, fun j hj => by have := q9 j hj; rwa [Nat.zero_add] at this⟩, fun O n d w F n1 n2 => ?_⟩, hl, hc, hs⟩, st⟩
  · intro y hy
    simp only [List.mem_cons, List.not_mem_nil, or_false] at hy
    rcases hy with rfl | rfl <;> rfl
  · by_cases q : y = x
    · subst q
      cases hD.symm.trans hy
      exact ⟨E', q1.1, q2.2.1, q2.1, hsz⟩
    · exact ⟨cy, q10 y cy q hy, rfl, rfl, rfl⟩
  · obtain ⟨D3, cf, k, i, f, g1, g2, g3, g4, g5, g6, g7⟩ := F
    cases hD.symm.trans g1
    simp only [RoadKit.slotOf, g2, gV, gC, Option.map_some, Option.getD_some] at n1 n2
    exact ⟨E', cf, k, i, f, q1.1, g2, g3, by rw [q2.1]; exact g4, by rw [q2.1]; exact g5, by rw [q2.2.1]; exact g6, by rw [q2.2.2 f.slot (by simp [n1, n2])]; exact g7⟩
end StrChars.Road
namespace StrChars.Road
open Jvm Sem ClassFile Op Lib Jvm.Stand Jvm.Free Jvm.Free.XT
/-- WHAT COMES BACK, the byte[] as a list of values -/
def QA (Z : State) (x : Addr) (zn : Int32) (cs : List Int32) (h : Heap) (v : Option Value) (h' : Heap) (L : List Loc) : Prop := v = none ∧ (∀ y ∈ L, y.base = x) ∧ RoadKit.Keep h h' [x] ∧ h'.size = h.size + 1 ∧ RoadKit.Exa Z h' x ST ∧ RoadKit.Fld Z h' x ST "value" "[B" (.ref h.size) ∧ RoadKit.Fld Z h' x ST "coder" "B" (.int 0) ∧
  (∃ kb, Z.vm.findClass "[B" = some kb ∧ RoadKit.Arv Z h' h.size kb .byte zn (cs.map fun c => .int (lo8 c)) (.int 0)) ∧
  ∀ (O n d : String) (w : Value), RoadKit.Fld Z h x O n d w → RoadKit.slotOf Z O n d ≠ RoadKit.slotOf Z ST "value" "[B" → RoadKit.slotOf Z O n d ≠ RoadKit.slotOf Z ST "coder" "B" → RoadKit.Fld Z h' x O n d w
/-- **new String(chars) AT A CALL, THE ARRAYS AS LISTS**: the char[] at b holds cs, not empty, no char above 255 -/
theorem backArv {p : Program} {l : Launch} {e : Env} {R : Room} {s : State} {args : Array Value} {below : List Frame} {len W : Nat} {Z : State} {a0 : Array Value} {h : Heap} (hZ : Z.Warmed39 s.vm) (hw : ∀ d ∈ words, d.before a0 Z = true) {kI : Nat} (wi : (Jvm.Cond.instantiable ST kI).before a0 Z = true)
    {x b : Addr} {k : ClassId} {zn z : Int32} {cs : List Int32} {dv v0 c0 : Value} (E : RoadKit.Exa Z h x ST) (V : RoadKit.Fld Z h x ST "value" "[B" v0) (C : RoadKit.Fld Z h x ST "coder" "B" c0) (K : RoadKit.Arv Z h b k .char zn (cs.map Value.int) dv) (S : RoadKit.Sta Z h ST "COMPACT_STRINGS" "Z" (.int z)) (hz : ¬ z = 0)
    (hlen : zn.toNatClampNeg = cs.length) (h0 : 0 < cs.length) (hbig : cs.length ≤ 536870912) (hall : ∀ c ∈ cs, ¬ 255 < c) (hfr : 4 ≤ R.frames) (hlo : W + 65 ≤ R.locals) :
    Back l R p e below s args New1.yN len W (fun P a => a = #[.ref x, .ref b] ∧ P.U.heap = h ∧ P.cells + 1 ≤ R.cells ∧ P.slots + cs.length ≤ R.slots)
      (fun P _ v B => ∃ L, QA Z x zn cs h v B.U.heap L ∧ B.locs = P.locs ++ L ∧ B.cells = P.cells + 1 ∧ B.slots = P.slots + cs.length) := by
  obtain ⟨A, K1, K2, K3, K4, K5, K6⟩ := K
  have e : A.slots.size = cs.length := K3.trans hlen
  have hat : ∀ (i : Nat) (hi : i < cs.length), A.slots[i]? = some (.int cs[i]) := fun i hi => by rw [K5 i (by omega)]; simp [List.getD_eq_getElem?_getD, hi]
  have hcv : ∀ (i : Nat) (hi : i < cs.length), cv A i = cs[i] := fun i hi => by unfold cv; rw [hat i hi]
  have hty : Typed .char A := fun i v hv => by
    have hi : i < A.slots.size := (Array.getElem?_eq_some_iff.mp hv).1
    have q := K5 i hi
    rw [hv] at q
    rw [Option.some.inj q]
    exact K6 i hi
  refine Back.mono (back hZ hw wi E V C K1 hty S hz (by omega) (by omega) (fun i hi => by rw [hcv i (by omega)]; exact hall _ (List.getElem_mem _)) hfr hlo) (fun P a hp => ⟨hp.1, hp.2.1, hp.2.2.1, by rw [e]; exact hp.2.2.2⟩) (fun P a v B hp hq => ?_)
  obtain ⟨L, ⟨q1, q2, q3, q4, q5, q6, q7, ⟨V', v1, v2, v3, v4, v5⟩, q9⟩, hl, hc, hs⟩ := hq
  refine ⟨L, ⟨q1, q2, q3, q4, q5, q6, q7, ⟨V'.cls, v3, V', v1, rfl, by rw [v4, e, hlen], K4, fun i hi => ?_, fun i hi => ?_⟩, q9⟩, hl, hc, by rw [hs, e]⟩
  · have hi' : i < cs.length := by omega
    rw [v5 i (by omega), hcv i hi']; simp [List.getD_eq_getElem?_getD, hi']
  · have hi' : i < cs.length := by omega
    simp only [List.getD_eq_getElem?_getD, List.getElem?_map, List.getElem?_eq_getElem hi', Option.map_some, Option.getD_some]
    exact fits_lo8 _
end StrChars.Road
namespace StrChars.Road
open Jvm Sem ClassFile Op Lib Jvm.Stand Jvm.Free Jvm.Free.XT
/-- WHAT COMES BACK, in the writer's own shape -/
def QV (Z : State) (x : Addr) (N : Int32) (bs : List Int32) (h : Heap) (n0 : Nat) (v : Option Value) (h' : Heap) (L : List Loc) : Prop := v = none ∧ RoadKit.Fr n0 L ∧ RoadKit.Keep h h' [x] ∧ RoadKit.Exa Z h' x ST ∧ RoadKit.Fld Z h' x ST "coder" "B" (.int 0) ∧
  ∃ (t : Addr) (kb : ClassId), n0 ≤ t ∧ h.size ≤ t ∧ ¬ t = x ∧ RoadKit.Fld Z h' x ST "value" "[B" (.ref t) ∧ RoadKit.Arv Z h' t kb .byte N (bs.map Value.int) (.int 0)
/-- **new String(chars) AT A CALL, FOR THE WRITER**: a char[] of n known ints, each 0 to 255 -/
theorem backV {p : Program} {l : Launch} {e : Env} {R : Room} {s : State} {args : Array Value} {below : List Frame} {len W : Nat} {Z : State} {a0 : Array Value} {h : Heap} (hZ : Z.Warmed39 s.vm) (hw : ∀ d ∈ words, d.before a0 Z = true) {kI : Nat} (wi : (Jvm.Cond.instantiable ST kI).before a0 Z = true)
    {x b : Addr} {kC : ClassId} {cs bs : List Int32} {d v0 c0 : Value} {z N : Int32} {n n0 : Nat} (hx0 : n0 ≤ x) (hh0 : n0 ≤ h.size) (E : RoadKit.Exa Z h x ST) (V : RoadKit.Fld Z h x ST "value" "[B" v0) (C : RoadKit.Fld Z h x ST "coder" "B" c0) (K : RoadKit.Arv Z h b kC .char N (cs.map Value.int) d) (S : RoadKit.Sta Z h ST "COMPACT_STRINGS" "Z" (.int z)) (hz : ¬ z = 0)
    (hn : cs.length = n) (hN : N = Int32.ofNat n) (l0 : 0 < n) (l2 : n ≤ 4000) (hp : ∀ c ∈ cs, ¬ c < 0 ∧ ¬ (255 : Int32) < c) (hb : bs = cs.map (fun c => c.toInt8.toInt32)) (hfr : 4 ≤ R.frames) (hlo : W + 65 ≤ R.locals) :
    Back l R p e below s args (⟨"java/lang/String", "<init>", "([C)V"⟩ : MethodName) len W (fun P a => a = #[.ref x, .ref b] ∧ P.U.heap = h ∧ P.cells + 1 ≤ R.cells ∧ P.slots + n ≤ R.slots)
      (fun P _ v B => ∃ L, QV Z x N bs h n0 v B.U.heap L ∧ B.locs = P.locs ++ L ∧ B.cells = P.cells + 1 ∧ B.slots = P.slots + n) := by
  subst hn hN hb
  refine Back.mono (backArv hZ hw wi E V C K S hz (n32 (by omega)) l0 (by omega) (fun c hc => (hp c hc).2) hfr hlo) (fun P a hp => hp) (fun P a v B hp hq => ?_)
  obtain ⟨L, ⟨q1, q2, q3, q4, q5, q6, q7, ⟨kb, v1, v2⟩, q9⟩, hl, hc, hs⟩ := hq
  exact ⟨L, ⟨q1, fun y hy => by rw [q2 y hy]; exact hx0, q3, q5, q7, h.size, kb, hh0, Nat.le_refl _, Nat.ne_of_gt E.lt, q6, by rw [List.map_map]; exact v2⟩, hl, hc, hs⟩
end StrChars.Road
namespace StrChars
open Jvm Sem ClassFile Op Lib Jvm.Stand Jvm.Free.XT Jvm.Free.ALB Jvm.Free.JM Jvm.Free
open Jvm.Lib.Cold (StaticIs)
def hi8 (x : Int32) : Int32 := lo8 (x >>> ((8 : Int32) &&& 31))
/-- what StringUTF16.getChar makes of two bytes -/
def pairCh (u v : Int32) : Int32 := (((u &&& 255) <<< ((0 : Int32) &&& 31)) ||| ((v &&& 255) <<< ((8 : Int32) &&& 31))).toUInt32.toUInt16.toUInt32.toInt32
theorem shr0 (c : Int32) : c >>> ((0 : Int32) &&& 31) = c := by
  have e : ((0 : Int32) &&& 31) = 0 := by decide
  rw [e]
  apply Int32.toBitVec_inj.mp
  rw [Int32.toBitVec_shiftRight]
  have e1 : ((0 : Int32).toBitVec.smod 32) = 0#32 := by decide
  rw [e1, BitVec.sshiftRight_eq']
  exact BitVec.sshiftRight_zero
theorem lo8_and (x : Int32) : (lo8 x &&& 255).toBitVec.toNat = x.toBitVec.toNat % 256 := by
  have h : (lo8 x).toBitVec = (x.toBitVec.signExtend 8).signExtend 32 := by rw [lo8, Int8.toBitVec_toInt32, Int32.toBitVec_toInt8]
  rw [Int32.toBitVec_and, BitVec.toNat_and, h]
  have e : ((x.toBitVec.signExtend 8).signExtend 32).toNat % 256 = x.toBitVec.toNat % 256 := by
    rw [BitVec.toNat_signExtend]
    have hlt := x.toBitVec.isLt
    simp only [BitVec.toNat_setWidth, BitVec.toNat_signExtend]
    split <;> split <;> omega
  rw [← e]
  exact Nat.and_two_pow_sub_one_eq_mod _ 8
theorem pair_says {c : Int32} (h0 : ¬ c < 0) (h1 : ¬ 65535 < c) : pairCh (lo8 c) (hi8 c) = c := by
  rw [Int32.lt_iff_toInt_lt] at h0 h1
  have e0 : (0 : Int32).toInt = 0 := rfl
  have e1 : (65535 : Int32).toInt = 65535 := rfl
  have hc : c.toInt = c.toBitVec.toNat := by
    have := c.toBitVec.isLt
    have e : c.toInt = c.toBitVec.toInt := rfl
    rw [e] at h0 h1
    rw [e]
    rw [BitVec.toInt_eq_toNat_cond] at h0 h1 ⊢
    split at h0 <;> split <;> omega
  have hn : c.toBitVec.toNat < 65536 := by omega
  have a1 := lo8_and c
  have a2 : (hi8 c &&& 255).toBitVec.toNat = c.toBitVec.toNat / 256 := by
    rw [hi8, lo8_and]
    have e : ((8 : Int32) &&& 31) = 8 := by decide
    rw [e, Int32.toBitVec_shiftRight]
    have e2 : ((8 : Int32).toBitVec.smod 32) = 8#32 := by decide
    rw [e2, BitVec.sshiftRight_eq', BitVec.toNat_sshiftRight_of_msb_false (by rw [BitVec.msb_eq_false_iff_two_mul_lt]; omega)]
    show c.toBitVec.toNat >>> 8 % 256 = _
    rw [Nat.shiftRight_eq_div_pow]
    omega
  unfold pairCh
  apply Int32.toBitVec_inj.mp
  apply BitVec.eq_of_toNat_eq
  have f0 : ((0 : Int32) &&& 31) = 0 := by decide
  have f8 : ((8 : Int32) &&& 31) = 8 := by decide
  rw [f0, f8]
  have g : (((lo8 c &&& 255) <<< (0 : Int32)) ||| ((hi8 c &&& 255) <<< (8 : Int32))).toBitVec.toNat = c.toBitVec.toNat := by
    rw [Int32.toBitVec_or, Int32.toBitVec_shiftLeft, Int32.toBitVec_shiftLeft]
    have s0 : ((0 : Int32).toBitVec.smod 32) = 0#32 := by decide
    have s8 : ((8 : Int32).toBitVec.smod 32) = 8#32 := by decide
    rw [s0, s8, BitVec.toNat_or]
    simp only [BitVec.shiftLeft_eq', BitVec.toNat_shiftLeft, a1, a2]
    show (c.toBitVec.toNat % 256) <<< 0 % 2 ^ 32 ||| (c.toBitVec.toNat / 256) <<< 8 % 2 ^ 32 = _
    rw [Nat.shiftLeft_zero, Nat.mod_eq_of_lt (show c.toBitVec.toNat % 256 < 2 ^ 32 by omega), Nat.mod_eq_of_lt (show (c.toBitVec.toNat / 256) <<< 8 < 2 ^ 32 by rw [Nat.shiftLeft_eq]; omega), Nat.or_comm, ← Nat.shiftLeft_add_eq_or_of_lt (by omega), Nat.shiftLeft_eq]
    omega
  show BitVec.toNat (((((lo8 c &&& 255) <<< (0 : Int32)) ||| ((hi8 c &&& 255) <<< (8 : Int32))).toBitVec.setWidth 16).setWidth 32) = _
  rw [BitVec.toNat_setWidth, BitVec.toNat_setWidth, g]
  omega
end StrChars
namespace StrChars
open Jvm Sem ClassFile Op Lib Jvm.Stand Jvm.Free.XT Jvm.Free.ALB Jvm.Free.JM Jvm.Free
open Jvm.Lib.Cold (StaticIs)
theorem shr1 {n : Nat} (h : 2 * n < 2 ^ 31) : Int32.ofNat (2 * n) >>> ((1 : Int32) &&& 31) = Int32.ofNat n := by
  have e : ((1 : Int32) &&& 31) = 1 := by decide
  rw [e]
  apply Int32.toBitVec_inj.mp
  rw [Int32.toBitVec_shiftRight]
  have e1 : ((1 : Int32).toBitVec.smod 32) = 1#32 := by decide
  have hm : (BitVec.ofNat 32 (2 * n)).toNat = 2 * n := by rw [BitVec.toNat_ofNat, Nat.mod_eq_of_lt (by omega)]
  rw [e1, BitVec.sshiftRight_eq']
  apply BitVec.eq_of_toNat_eq
  show ((BitVec.ofNat 32 (2 * n)).sshiftRight 1).toNat = (BitVec.ofNat 32 n).toNat
  rw [BitVec.toNat_sshiftRight_of_msb_false (by rw [BitVec.msb_eq_false_iff_two_mul_lt, hm]; omega), hm, BitVec.toNat_ofNat, Nat.shiftRight_eq_div_pow]
  omega
/-- charAt's cast of a byte read back -/
def chr8 (u : Int32) : Int32 := (u &&& 255).toUInt32.toUInt16.toUInt32.toInt32
theorem chr8_lo8 {c : Int32} (h0 : ¬ c < 0) (h1 : ¬ 255 < c) : chr8 (lo8 c) = c := by
  have t : ∀ k : Fin 256, (Int32.ofNat k.val).toUInt32.toUInt16.toUInt32.toInt32 = Int32.ofNat k.val := by decide +kernel
  unfold chr8
  rw [lo8_mask h0 h1]
  rw [Int32.lt_iff_toInt_lt] at h0 h1
  have e0 : (0 : Int32).toInt = 0 := rfl
  have e1 : (255 : Int32).toInt = 255 := rfl
  obtain ⟨k, hk⟩ : ∃ k : Nat, c.toInt = k := ⟨c.toInt.toNat, by omega⟩
  have hx : c = Int32.ofNat k := Int32.toInt_inj.mp (by rw [hk, Int32.toInt_ofNat_small (by omega)])
  rw [hx]
  exact t ⟨k, by omega⟩
theorem narrow_ch {c : Int32} (h0 : ¬ c < 0) (h1 : ¬ 65535 < c) : narrow .char (.int c) = .int c := by
  have q : narrow .char (.int (pairCh (lo8 c) (hi8 c))) = .int (pairCh (lo8 c) (hi8 c)) := narrow_c _
  rwa [pair_says h0 h1] at q
/-- the array's cell V codes the n chars f 0 .. f (n - 1) by the coder cd, as the JDK does: coder 1 just where some char is above 255 -/
def Cod (cd : Int32) (n : Nat) (f : Nat → Int32) (V : Cell) : Prop := (cd = 0 ∧ V.slots.size = n ∧ ∀ j, j < n → V.slots[j]? = some (.int (lo8 (f j))) ∧ ¬ 255 < f j) ∨ (cd = 1 ∧ V.slots.size = 2 * n ∧ (∀ j, j < n → V.slots[2 * j]? = some (.int (lo8 (f j))) ∧ V.slots[2 * j + 1]? = some (.int (hi8 (f j)))) ∧ ∃ j, j < n ∧ 255 < f j)
theorem Cod.cd {cd : Int32} {n : Nat} {f : Nat → Int32} {V : Cell} (h : Cod cd n f V) : cd = 0 ∨ cd = 1 := h.imp (fun q => q.1) fun q => q.1
theorem Cod.len {cd : Int32} {n : Nat} {f : Nat → Int32} {V : Cell} (h : Cod cd n f V) (hs : V.slots.size < 2 ^ 31) : Int32.ofNat V.slots.size >>> (cd &&& 31) = Int32.ofNat n := by
  rcases h with ⟨rfl, h, -⟩ | ⟨rfl, h, -⟩
  · rw [shr0, h]
  · rw [h, shr1 (by omega)]
/-- **x is a String of the n chars f 0 .. f (n - 1)**, Latin-1 or UTF-16; its array at t has the cell V -/
def Txt (x t : Addr) (V : Cell) (cd : Int32) (n : Nat) (f : Nat → Int32) (U : State) : Prop := Exact "java/lang/String" x U ∧ Has x "java/lang/String" "value" "[B" (.ref t) U ∧ Has x "java/lang/String" "coder" "B" (.int cd) U ∧ XT.Arr .byte t V U ∧ Cod cd n f V ∧ ∀ j, j < n → ¬ f j < 0 ∧ ¬ 65535 < f j
theorem Txt.mv {x t : Addr} {V : Cell} {cd : Int32} {n : Nat} {f : Nat → Int32} {U U' : State} (h : Txt x t V cd n f U) (hal : U.vm.Alike U'.vm) (hh : U'.heap = U.heap) : Txt x t V cd n f U' := ⟨h.1.mv hal hh, h.2.1.mv hal hh, h.2.2.1.mv hal hh, h.2.2.2.1.mv hal hh, h.2.2.2.2⟩
namespace Cdr
def yN : MethodName := ⟨"java/lang/String", "coder", "()B"⟩
abbrev yB : ByteArray := jdk_42_method_152_code
theorem d0 : decode yB 0 = .ok (.getstatic 38, 3) := by decide +kernel
theorem d3 : decode yB 3 = .ok (.ifCond (.eq) 10, 3) := by decide +kernel
theorem d6 : decode yB 6 = .ok (.aload_n 0, 1) := by decide +kernel
theorem d7 : decode yB 7 = .ok (.getfield 15, 3) := by decide +kernel
theorem d10 : decode yB 10 = .ok (.goto 4, 3) := by decide +kernel
theorem d14 : decode yB 14 = .ok (.ireturn, 1) := by decide +kernel
def site : List Cond := [.fieldLink "java/lang/String" 38 "java/lang/String" "COMPACT_STRINGS" "Z", .fieldLink "java/lang/String" 15 "java/lang/String" "coder" "B"]
def tab : Cond := tabOf yN yB 1 (some .byte) site
def P (x : Addr) (cd z : Int32) (args : Array Value) (s : State) : Prop := args = #[.ref x] ∧ Has x "java/lang/String" "coder" "B" (.int cd) s ∧ (cd = 0 ∨ cd = 1) ∧ StaticIs s "java/lang/String" "COMPACT_STRINGS" "Z" (.int z) ∧ ¬ z = 0
def E (cd : Int32) (r : Option Value) (s u : State) : Prop := XT.PureE (some (.int cd)) r s u
theorem law (l : Launch) (x : Addr) (cd z : Int32) : Law l yN 1 0 0 0 yB 1 (some .byte) site (P x cd z) (E cd) [] 0 0 := by
  refine Law.of_walk (plainFor_of_name (by decide +kernel)) (by decide +kernel) (by decide +kernel) (by decide) (fun _ _ h => by rw [h.1]; rfl) (fun _ U U' hal hh h => ⟨h.1, h.2.1.mv hal hh, h.2.2.1, h.2.2.2.1.there hal hh, h.2.2.2.2⟩) (fun r U U' V V' h1 hal h2 h => XT.PureE.mv r U U' V V' h1 hal h2 h) ?_
  intro p e s m args below meth c s₁ X0 hexec hbytes hml hret hlk hnm hown hh0 W hP
  obtain ⟨rfl, hx, hc, s1, hz⟩ := hP
  have c1 : Steps p.tables e below (s₁.setTop (entryFrame m #[.ref x] 1)) (s₁.setTop (mkF m 0 #[.val (.ref x)] [])) := entry rfl
  obtain ⟨T2, X2, q2, st2⟩ := X0.sget hexec hown (wk W (.fieldLink "java/lang/String" 38 "java/lang/String" "COMPACT_STRINGS" "Z")) s1 (fun _ _ h => by rw [hh0]; exact h) (g := (mkF m 0 #[.val (.ref x)] [])) rfl (hb hbytes d0)
  have hh2 := q2.trans hh0
  have c3 : Steps p.tables e below (s₁.setTop (entryFrame m #[.ref x] 1)) (T2.setTop (mkF m 7 #[.val (.ref x)] [.ref x])) := (c1.trans (st2 _ (Steps.refl _))).trans (by
    refine XS.ifNo X2.here hexec rfl (hb hbytes d3) rfl (i0_eq_f hz) ?_
    refine XS.aloadN X2.here hexec rfl (hb hbytes d6) rfl rfl ?_
    exact Steps.refl _)
  obtain ⟨T4, X4, q4, st4⟩ := X2.hget hexec hown (wk W (.fieldLink "java/lang/String" 15 "java/lang/String" "coder" "B")) (hx.mv X2.warmed.alike hh2) (g := (mkF m 7 #[.val (.ref x)] [.ref x])) rfl (rest := []) rfl (hb hbytes d7)
  have c5 : Steps p.tables e below (s₁.setTop (entryFrame m #[.ref x] 1)) (T4.setTop (mkF m 14 #[.val (.ref x)] [.int cd])) := (c3.trans (st4 _ (Steps.refl _))).trans (by
    refine XS.goto X4.here hexec rfl (pc0 := 10) rfl (hb hbytes d10) (by decide) rfl ?_
    exact Steps.refl _)
  exact ⟨T4, some (.int cd), _, _, _, X4, rfl, rfl, rfl, (fun h => by cases h), ⟨rfl, q4.trans hh2⟩, fun fs hl => c5.trans (X4.ireturnOut hexec hret (by rcases hc with rfl | rfl <;> rfl) (Or.inr (Or.inr (Or.inl rfl))) (hb hbytes d14) hl)⟩
end Cdr
namespace Len
def yN : MethodName := ⟨"java/lang/String", "length", "()I"⟩
abbrev yB : ByteArray := jdk_42_method_54_code
theorem d0 : decode yB 0 = .ok (.aload_n 0, 1) := by decide +kernel
theorem d1 : decode yB 1 = .ok (.getfield 9, 3) := by decide +kernel
theorem d4 : decode yB 4 = .ok (.arraylength, 1) := by decide +kernel
theorem d5 : decode yB 5 = .ok (.aload_n 0, 1) := by decide +kernel
theorem d6 : decode yB 6 = .ok (.invokevirtual 335, 3) := by decide +kernel
theorem d9 : decode yB 9 = .ok (.ishr, 1) := by decide +kernel
theorem d10 : decode yB 10 = .ok (.ireturn, 1) := by decide +kernel
def site : List Cond := [.fieldLink "java/lang/String" 9 "java/lang/String" "value" "[B", Cdr.tab] ++ virtW "java/lang/String" 335 "java/lang/String" Cdr.yN Cdr.yN
def tab : Cond := tabOf yN yB 1 (some .int) site
def P (x t : Addr) (V : Cell) (cd : Int32) (n : Nat) (f : Nat → Int32) (z : Int32) (args : Array Value) (s : State) : Prop := args = #[.ref x] ∧ Txt x t V cd n f s ∧ StaticIs s "java/lang/String" "COMPACT_STRINGS" "Z" (.int z) ∧ ¬ z = 0
def E (n : Nat) (r : Option Value) (s u : State) : Prop := XT.PureE (some (.int (Int32.ofNat n))) r s u
/-- length() of a String of n chars, in either coding -/
theorem law (l : Launch) (x t : Addr) (V : Cell) (cd : Int32) (n : Nat) (f : Nat → Int32) (z : Int32) : Law l yN 1 0 1 13 yB 1 (some .int) site (P x t V cd n f z) (E n) [] 0 0 := by
  refine Law.of_walk (plainFor_of_name (by decide +kernel)) (by decide +kernel) (by decide +kernel) (by decide) (fun _ _ h => by rw [h.1]; rfl) (fun _ U U' hal hh h => ⟨h.1, h.2.1.mv hal hh, h.2.2.1.there hal hh, h.2.2.2⟩) (fun r U U' V V' h1 hal h2 h => XT.PureE.mv r U U' V V' h1 hal h2 h) ?_
  intro p e s m args below meth c s₁ X0 hexec hbytes hml hret hlk hnm hown hh0 W hP
  obtain ⟨rfl, hx, s1, hz⟩ := hP
  have v31 := hx.2.2.2.1.2.2.2
  have c1 : Steps p.tables e below (s₁.setTop (entryFrame m #[.ref x] 1)) (s₁.setTop (mkF m 1 #[.val (.ref x)] [.ref x])) := Steps.trans (entry rfl) (by
    show Steps p.tables e below (s₁.setTop (mkF m 0 #[.val (.ref x)] [])) _
    refine XS.aloadN X0.here hexec rfl (hb hbytes d0) rfl rfl ?_
    exact Steps.refl _)
  obtain ⟨T2, X2, q2, st2⟩ := X0.hget hexec hown (wk W (.fieldLink "java/lang/String" 9 "java/lang/String" "value" "[B")) (hx.mv X0.warmed.alike hh0).2.1 (g := (mkF m 1 #[.val (.ref x)] [.ref x])) rfl (rest := []) rfl (hb hbytes d1)
  have hh2 := q2.trans hh0
  have hx2 := hx.mv X2.warmed.alike hh2
  have c3 : Steps p.tables e below (s₁.setTop (entryFrame m #[.ref x] 1)) (T2.setTop (mkF m 6 #[.val (.ref x)] [.ref x, .int (Int32.ofNat V.slots.size)])) := (c1.trans (st2 _ (Steps.refl _))).trans (by
    refine X2.alen hexec hx2.2.2.2.1 rfl rfl (hb hbytes d4) ?_
    refine XS.aloadN X2.here hexec rfl (hb hbytes d5) rfl rfl ?_
    exact Steps.refl _)
  obtain ⟨v4, T4, X4, E4, g4⟩ := X2.callV hexec (Cdr.law l x cd z) hown (wks W (virtW "java/lang/String" 335 "java/lang/String" Cdr.yN Cdr.yN)) rfl (by decide) (wk W Cdr.tab) (W := 1) (Nat.le_of_ble_eq_true rfl) (Nat.le_of_ble_eq_true rfl) (Nat.le_refl _) (Nat.le_refl _) (hx2.1.fc X2.warmed.alike) hx2.1.is (g := (mkF m 6 #[.val (.ref x)] [.ref x, .int (Int32.ofNat V.slots.size)])) rfl (by rw [hml]; rfl) c3 (argsL := []) (rest := [.int (Int32.ofNat V.slots.size)]) rfl rfl (by show 2 * 0 + (1 + 0) ≤ _; decide) (hb hbytes d6) (⟨rfl, hx2.2.2.1, hx.2.2.2.2.1.cd, s1.there X2.warmed.alike hh2, hz⟩)
  obtain ⟨rfl, q4⟩ := E4
  have c5 : Steps p.tables e below (s₁.setTop (entryFrame m #[.ref x] 1)) (T4.setTop (mkF m 10 #[.val (.ref x)] [.int (Int32.ofNat V.slots.size >>> (cd &&& 31))])) := Steps.trans g4 (by
    refine ishr X4.here hexec rfl (hb hbytes d9) rfl ?_
    exact Steps.refl _)
  rw [hx.2.2.2.2.1.len v31] at c5
  exact ⟨T4, some (.int (Int32.ofNat n)), _, _, _, X4, rfl, rfl, rfl, (fun h => by cases h), ⟨rfl, q4.trans hh2⟩, fun fs hl => c5.trans (X4.ireturnOut hexec hret rfl (Or.inl rfl) (hb hbytes d10) hl)⟩
theorem pays {l : Launch} {R : Room} {p : Program} {e : Env} {below : List Frame} {s : State} {sargs : Array Value} {len W : Nat} (x t : Addr) (V : Cell) (cd : Int32) (n : Nat) (f : Nat → Int32) (z : Int32) (htab : tab.before sargs s = true) (hfr : 2 ≤ R.frames) (hlo : W + 25 ≤ R.locals) :
    Back l R p e below s sargs yN len W (fun A₁ a₁ => A₁.cells + 0 ≤ R.cells ∧ A₁.slots + 0 ≤ R.slots ∧ P x t V cd n f z a₁ A₁.U) (fun A₁ _ v₁ B₁ => E n v₁ A₁.U B₁.U ∧ B₁.locs = A₁.locs ++ [] ∧ B₁.cells = A₁.cells + 0 ∧ B₁.slots = A₁.slots + 0) :=
  (law l x t V cd n f z).pays htab hfr (by omega)
end Len
namespace IsL
def yN : MethodName := ⟨"java/lang/String", "isLatin1", "()Z"⟩
abbrev yB : ByteArray := jdk_42_method_154_code
theorem d0 : decode yB 0 = .ok (.getstatic 38, 3) := by decide +kernel
theorem d3 : decode yB 3 = .ok (.ifCond (.eq) 14, 3) := by decide +kernel
theorem d6 : decode yB 6 = .ok (.aload_n 0, 1) := by decide +kernel
theorem d7 : decode yB 7 = .ok (.getfield 15, 3) := by decide +kernel
theorem d10 : decode yB 10 = .ok (.ifCond (.ne) 7, 3) := by decide +kernel
theorem d13 : decode yB 13 = .ok (.iconst 1, 1) := by decide +kernel
theorem d14 : decode yB 14 = .ok (.goto 4, 3) := by decide +kernel
theorem d17 : decode yB 17 = .ok (.iconst 0, 1) := by decide +kernel
theorem d18 : decode yB 18 = .ok (.ireturn, 1) := by decide +kernel
def site : List Cond := [.fieldLink "java/lang/String" 38 "java/lang/String" "COMPACT_STRINGS" "Z", .fieldLink "java/lang/String" 15 "java/lang/String" "coder" "B"]
def tab : Cond := tabOf yN yB 1 (some .boolean) site
def P (x : Addr) (cd z : Int32) (args : Array Value) (s : State) : Prop := args = #[.ref x] ∧ Has x "java/lang/String" "coder" "B" (.int cd) s ∧ (cd = 0 ∨ cd = 1) ∧ StaticIs s "java/lang/String" "COMPACT_STRINGS" "Z" (.int z) ∧ ¬ z = 0
def E (cd : Int32) (r : Option Value) (s u : State) : Prop := XT.PureE (some (.int (1 - cd))) r s u
theorem law (l : Launch) (x : Addr) (cd z : Int32) : Law l yN 1 0 0 0 yB 1 (some .boolean) site (P x cd z) (E cd) [] 0 0 := by
  refine Law.of_walk (plainFor_of_name (by decide +kernel)) (by decide +kernel) (by decide +kernel) (by decide) (fun _ _ h => by rw [h.1]; rfl) (fun _ U U' hal hh h => ⟨h.1, h.2.1.mv hal hh, h.2.2.1, h.2.2.2.1.there hal hh, h.2.2.2.2⟩) (fun r U U' V V' h1 hal h2 h => XT.PureE.mv r U U' V V' h1 hal h2 h) ?_
  intro p e s m args below meth c s₁ X0 hexec hbytes hml hret hlk hnm hown hh0 W hP
  obtain ⟨rfl, hx, hc, s1, hz⟩ := hP
  have c1 : Steps p.tables e below (s₁.setTop (entryFrame m #[.ref x] 1)) (s₁.setTop (mkF m 0 #[.val (.ref x)] [])) := entry rfl
  obtain ⟨T2, X2, q2, st2⟩ := X0.sget hexec hown (wk W (.fieldLink "java/lang/String" 38 "java/lang/String" "COMPACT_STRINGS" "Z")) s1 (fun _ _ h => by rw [hh0]; exact h) (g := (mkF m 0 #[.val (.ref x)] [])) rfl (hb hbytes d0)
  have hh2 := q2.trans hh0
  have c3 : Steps p.tables e below (s₁.setTop (entryFrame m #[.ref x] 1)) (T2.setTop (mkF m 7 #[.val (.ref x)] [.ref x])) := (c1.trans (st2 _ (Steps.refl _))).trans (by
    refine XS.ifNo X2.here hexec rfl (hb hbytes d3) rfl (i0_eq_f hz) ?_
    refine XS.aloadN X2.here hexec rfl (hb hbytes d6) rfl rfl ?_
    exact Steps.refl _)
  obtain ⟨T4, X4, q4, st4⟩ := X2.hget hexec hown (wk W (.fieldLink "java/lang/String" 15 "java/lang/String" "coder" "B")) (hx.mv X2.warmed.alike hh2) (g := (mkF m 7 #[.val (.ref x)] [.ref x])) rfl (rest := []) rfl (hb hbytes d7)
  have c5 : Steps p.tables e below (s₁.setTop (entryFrame m #[.ref x] 1)) (T4.setTop (mkF m 10 #[.val (.ref x)] [.int cd])) := c3.trans (st4 _ (Steps.refl _))
  have c6 : Steps p.tables e below (s₁.setTop (entryFrame m #[.ref x] 1)) (T4.setTop (mkF m 18 #[.val (.ref x)] [.int (1 - cd)])) := by
    rcases hc with rfl | rfl
    · exact c5.trans (by
        refine XS.ifNo X4.here hexec rfl (hb hbytes d10) rfl (i0_ne_f rfl) ?_
        refine iconstV X4.here hexec rfl 1 (hb hbytes d13) (by decide) ?_
        refine XS.goto X4.here hexec rfl (pc0 := 14) rfl (hb hbytes d14) (by decide) rfl ?_
        exact Steps.refl _)
    · exact c5.trans (by
        refine XS.ifYes X4.here hexec rfl (pc0 := 10) rfl (hb hbytes d10) rfl (i0_ne_t (by decide)) (by decide) rfl ?_
        refine iconstV X4.here hexec rfl 0 (hb hbytes d17) (by decide) ?_
        exact Steps.refl _)
  exact ⟨T4, some (.int (1 - cd)), _, _, _, X4, rfl, rfl, rfl, (fun h => by cases h), ⟨rfl, q4.trans hh2⟩, fun fs hl => c6.trans (X4.ireturnOut hexec hret (by rcases hc with rfl | rfl <;> rfl) (Or.inr (Or.inl rfl)) (hb hbytes d18) hl)⟩
end IsL
namespace LChA
def yN : MethodName := ⟨"java/lang/StringLatin1", "charAt", "([BI)C"⟩
abbrev yB : ByteArray := jdk_43_method_2_code
theorem d0 : decode yB 0 = .ok (.iload_n 1, 1) := by decide +kernel
theorem d1 : decode yB 1 = .ok (.aload_n 0, 1) := by decide +kernel
theorem d2 : decode yB 2 = .ok (.arraylength, 1) := by decide +kernel
theorem d3 : decode yB 3 = .ok (.invokestatic 9, 3) := by decide +kernel
theorem d6 : decode yB 6 = .ok (.aload_n 0, 1) := by decide +kernel
theorem d7 : decode yB 7 = .ok (.iload_n 1, 1) := by decide +kernel
theorem d8 : decode yB 8 = .ok (.baload, 1) := by decide +kernel
theorem d9 : decode yB 9 = .ok (.sipush 255, 3) := by decide +kernel
theorem d12 : decode yB 12 = .ok (.iand, 1) := by decide +kernel
theorem d13 : decode yB 13 = .ok (.i2c, 1) := by decide +kernel
theorem d14 : decode yB 14 = .ok (.ireturn, 1) := by decide +kernel
def site : List Cond := [JO.Str_checkIndex.tab] ++ staticW "java/lang/StringLatin1" 9 JO.Str_checkIndex.yN
def tab : Cond := tabOf yN yB 2 (some .char) site
def P (t : Addr) (V : Cell) (i : Nat) (u : Int32) (fm : Value) (args : Array Value) (s : State) : Prop := args = #[.ref t, .int (Int32.ofNat i)] ∧ XT.Arr .byte t V s ∧ V.slots[i]? = some (.int u) ∧ (StaticIs s "jdk/internal/util/Preconditions" "SIOOBE_FORMATTER" "Ljava/util/function/BiFunction;" fm ∧ fm.isRef = true)
def E (u : Int32) (r : Option Value) (s w : State) : Prop := XT.PureE (some (.int (chr8 u))) r s w
theorem law (l : Launch) (t : Addr) (V : Cell) (i : Nat) (u : Int32) (fm : Value) : Law l yN 2 2 2 27 yB 2 (some .char) site (P t V i u fm) (E u) [] 0 0 := by
  refine Law.of_walk (plainFor_of_name (by decide +kernel)) (by decide +kernel) (by decide +kernel) (by decide) (fun _ _ h => by rw [h.1]; rfl) (fun _ U U' hal hh h => ⟨h.1, h.2.1.mv hal hh, h.2.2.1, h.2.2.2.1.there hal hh, h.2.2.2.2⟩) (fun r U U' V V' h1 hal h2 h => XT.PureE.mv r U U' V V' h1 hal h2 h) ?_
  intro p e s m args below meth c s₁ X0 hexec hbytes hml hret hlk hnm hown hh0 W hP
  obtain ⟨rfl, hV, hu, s1, rf⟩ := hP
  have v31 := hV.2.2.2
  have hi : i < V.slots.size := (Array.getElem?_eq_some_iff.mp hu).1
  have c1 : Steps p.tables e below (s₁.setTop (entryFrame m #[.ref t, .int (Int32.ofNat i)] 2)) (s₁.setTop (mkF m 0 #[.val (.ref t), .val (.int (Int32.ofNat i))] [])) := entry rfl
  have c2 : Steps p.tables e below (s₁.setTop (entryFrame m #[.ref t, .int (Int32.ofNat i)] 2)) (s₁.setTop (mkF m 3 #[.val (.ref t), .val (.int (Int32.ofNat i))] [.int (Int32.ofNat V.slots.size), .int (Int32.ofNat i)])) := c1.trans (by
    refine XS.iloadN X0.here hexec rfl (hb hbytes d0) rfl ?_
    refine XS.aloadN X0.here hexec rfl (hb hbytes d1) rfl rfl ?_
    refine X0.alen hexec (hV.mv X0.warmed.alike hh0) rfl rfl (hb hbytes d2) ?_
    exact Steps.refl _)
  obtain ⟨v3, T3, X3, E3, g3⟩ := X0.callS hexec (JO.Str_checkIndex.law l (Int32.ofNat i) (Int32.ofNat V.slots.size) fm) hown (wks W (staticW "java/lang/StringLatin1" 9 JO.Str_checkIndex.yN)) (wk W JO.Str_checkIndex.tab) (W := 0) (Nat.le_of_ble_eq_true rfl) (Nat.le_of_ble_eq_true rfl) (Nat.le_refl _) (Nat.le_refl _) (g := (mkF m 3 #[.val (.ref t), .val (.int (Int32.ofNat i))] [.int (Int32.ofNat V.slots.size), .int (Int32.ofNat i)])) rfl (by rw [hml]; rfl) c2 (argsL := [.int (Int32.ofNat i), .int (Int32.ofNat V.slots.size)]) (rest := []) rfl rfl (by show 2 * 0 + 0 ≤ _; decide) (hb hbytes d3) (⟨rfl, rf, s1.there X0.warmed.alike hh0, Int32.ofNat_not_neg (by omega), lt32 v31 hi⟩)
  obtain ⟨rfl, q3⟩ := E3
  have hh3 := q3.trans hh0
  have c4 : Steps p.tables e below (s₁.setTop (entryFrame m #[.ref t, .int (Int32.ofNat i)] 2)) (T3.setTop (mkF m 14 #[.val (.ref t), .val (.int (Int32.ofNat i))] [.int (chr8 u)])) := Steps.trans g3 (by
    refine XS.aloadN X3.here hexec rfl (hb hbytes d6) rfl rfl ?_
    refine XS.iloadN X3.here hexec rfl (hb hbytes d7) rfl ?_
    refine X3.aget hexec (hV.mv X3.warmed.alike hh3) rfl hu rfl rfl (hb hbytes d8) ?_
    refine sipushV X3.here hexec rfl 255 (hb hbytes d9) (by decide) ?_
    refine XS.iand X3.here hexec rfl (hb hbytes d12) rfl ?_
    refine i2c X3.here hexec rfl (hb hbytes d13) rfl ?_
    exact Steps.refl _)
  exact ⟨T3, some (.int (chr8 u)), _, _, _, X3, rfl, rfl, rfl, (fun h => by cases h), ⟨rfl, hh3⟩, fun fs hl => c4.trans (X3.ireturnOut hexec hret (narrow_c _) (Or.inr (Or.inr (Or.inr (Or.inl rfl)))) (hb hbytes d14) hl)⟩
end LChA
end StrChars
namespace StrChars.Road
open Jvm Sem ClassFile Op Lib Jvm.Stand Jvm.Free Jvm.Free.XT
open Jvm.Lib.Cold (StaticIs)
theorem consq {a : Array Value} {s : State} {c : Jvm.Cond} {L : List Jvm.Cond} (h0 : c.before a s = true) (h : ∀ w ∈ L, w.before a s = true) : ∀ w ∈ c :: L, w.before a s = true := fun w hw => (List.mem_cons.mp hw).elim (fun e => e ▸ h0) (h w)
/-- the words of String.length(), either coding -/
abbrev wordsLen : List Jvm.Cond := [.code Len.yN Len.yB 1 (some .int), .initialized ST, .fieldLink ST 9 ST "value" "[B", .fieldLink ST 38 ST "COMPACT_STRINGS" "Z", .fieldLink ST 15 ST "coder" "B", .code Cdr.yN Cdr.yB 1 (some .byte), .methodLink ST 335 Cdr.yN, .declares Cdr.yN, .selects ST Cdr.yN Cdr.yN, .instanceMethod Cdr.yN]
theorem tabLen_of {a : Array Value} {s : State} (h : ∀ w ∈ wordsLen, w.before a s = true) : Len.tab.before a s = true := by
  have hc : Cdr.tab.before a s = true := unparts (wk h (.code Cdr.yN Cdr.yB 1 (some .byte))) (wks h (.initialized Cdr.yN.cls :: Cdr.site))
  have q := consq hc h
  exact unparts (wk q (.code Len.yN Len.yB 1 (some .int))) (wks q (.initialized Len.yN.cls :: Len.site))
theorem movedLen {Z s : State} {a0 args : Array Value} (hZ : Z.Warmed39 s.vm) (hw : ∀ d ∈ wordsLen, d.before a0 Z = true) : ∀ d ∈ wordsLen, d.before args s = true := fun d hd => by
  have q := hw d hd
  have t : ∀ d ∈ wordsLen, d = .arrayClass .byte ∨ (d.onTables && d.keepsFace) = true := by decide +kernel
  rcases t d hd with rfl | t
  · exact RoadKit.mvA hZ q
  · exact RoadKit.mv hZ q t
/-- the bytes of the chars cs, low before high -/
def wideBytes : List Int32 → List Value
  | [] => []
  | c :: cs => .int (lo8 c) :: .int (hi8 c) :: wideBytes cs
theorem wide_lo (d : Value) : ∀ (cs : List Int32) (j : Nat), j < cs.length → (wideBytes cs).getD (2 * j) d = .int (lo8 (cs.getD j 0))
  | [], j, h => absurd h (Nat.not_lt_zero j)
  | c :: cs, 0, _ => rfl
  | c :: cs, j + 1, h => by
    have q := wide_lo d cs j (by simpa using h)
    rw [show 2 * (j + 1) = 2 * j + 1 + 1 from by omega]
    simpa [wideBytes] using q
theorem wide_hi (d : Value) : ∀ (cs : List Int32) (j : Nat), j < cs.length → (wideBytes cs).getD (2 * j + 1) d = .int (hi8 (cs.getD j 0))
  | [], j, h => absurd h (Nat.not_lt_zero j)
  | c :: cs, 0, _ => rfl
  | c :: cs, j + 1, h => by
    have q := wide_hi d cs j (by simpa using h)
    rw [show 2 * (j + 1) + 1 = 2 * j + 1 + 1 + 1 from by omega]
    simpa [wideBytes] using q
theorem low_at (d : Value) (cs : List Int32) (j : Nat) (h : j < cs.length) : (cs.map fun c => Value.int (lo8 c)).getD j d = .int (lo8 (cs.getD j 0)) := by
  simp [List.getD_eq_getElem?_getD, h]
/-- an array of N2 bytes vs codes the chars cs by the coder cd -/
def CodA (cs : List Int32) (cd N2 : Int32) (vs : List Value) : Prop := (cd = 0 ∧ N2 = Int32.ofNat cs.length ∧ vs = (cs.map fun c => Value.int (lo8 c)) ∧ ∀ c ∈ cs, ¬ 255 < c) ∨ (cd = 1 ∧ N2 = Int32.ofNat (2 * cs.length) ∧ vs = wideBytes cs ∧ ∃ c ∈ cs, 255 < c)
theorem CodA.cod {cs : List Int32} {cd N2 : Int32} {vs : List Value} {V : Cell} (h : CodA cs cd N2 vs) (hn : 2 * cs.length < 2 ^ 31) (hs : V.slots.size = N2.toNatClampNeg) (hv : RoadKit.Has V vs (.int 0)) : Cod cd cs.length (fun j => cs.getD j 0) V := by
  rcases h with ⟨rfl, rfl, rfl, h⟩ | ⟨rfl, rfl, rfl, c, hc, hw⟩
  · rw [n32 (by omega)] at hs
    exact Or.inl ⟨rfl, hs, fun j hj => ⟨by rw [hv j (by omega), low_at _ _ _ hj], by
      have e : cs.getD j 0 = cs[j] := by simp [List.getD_eq_getElem?_getD, hj]
      show ¬ 255 < cs.getD j 0
      rw [e]; exact h _ (List.getElem_mem _)⟩⟩
  · rw [n32 (by omega)] at hs
    obtain ⟨j, hj, rfl⟩ := List.getElem_of_mem hc
    exact Or.inr ⟨rfl, hs, fun j hj => ⟨by rw [hv _ (by omega), wide_lo _ _ _ hj], by rw [hv _ (by omega), wide_hi _ _ _ hj]⟩, j, hj, by
      have e : cs.getD j 0 = cs[j] := by simp [List.getD_eq_getElem?_getD, hj]
      show 255 < cs.getD j 0
      rw [e]; exact hw⟩
/-- an object of exactly java/lang/String, its two fields found: as the laws ask it -/
theorem strObj {Z U : State} {a0 : Array Value} {kI : Nat} (wi : (Jvm.Cond.instantiable ST kI).before a0 Z = true) (al : Z.vm.Alike U.vm) {x : Addr} {v0 c0 : Value} (E : RoadKit.Exa Z U.heap x ST) (V : RoadKit.Fld Z U.heap x ST "value" "[B" v0) (C : RoadKit.Fld Z U.heap x ST "coder" "B" c0) :
    ∃ (D : Cell) (fV fC : Field), Blank ST x D U ∧ Found ST "value" "[B" fV U ∧ Found ST "coder" "B" fC U ∧ D.slots[fV.slot]? = some v0 ∧ D.slots[fC.slot]? = some c0 ∧ RoadKit.slotOf Z ST "value" "[B" = fV.slot ∧ RoadKit.slotOf Z ST "coder" "B" = fC.slot := by
  obtain ⟨D, cfV, kV, iV, fV, hD, gV, stV, knV, obV, asV, slV⟩ := V
  obtain ⟨D', cfC, kC, iC, fC, hD', gC, stC, -, -, asC, slC⟩ := C
  cases hD.symm.trans hD'
  obtain ⟨D2, kD, e1, e2, e3, e4, e5⟩ := E
  cases hD.symm.trans e1
  obtain ⟨c2, k2, i1, i2, i3, -⟩ := Cond.instantiable_spec wi
  cases e2.symm.trans i1
  cases e3.symm.trans i2
  obtain ⟨kU, u1, u2⟩ := al.2.2 _ _ e3
  exact ⟨D, fV, fC, ⟨hD, ⟨knV, fun q hq => by rw [hq] at obV; cases obV⟩, by rw [al.findClass]; exact e2, kU, u1, by rw [u2]; exact i3, by rw [u2]; exact e5 i3⟩, ⟨SBG.found_only al ⟨cfV, kV, iV, gV⟩, stV⟩, ⟨SBG.found_only al ⟨cfC, kC, iC, gC⟩, stC⟩, slV, slC, by simp [RoadKit.slotOf, gV], by simp [RoadKit.slotOf, gC]⟩
theorem sta_is {Z U : State} (al : Z.vm.Alike U.vm) {C n d : String} {v : Value} (S : RoadKit.Sta Z U.heap C n d v) : StaticIs U C n d v := by
  obtain ⟨cfS, iS, kS, fS, st, cS, t1, t2, t3, t4, t5, t6, t7⟩ := S
  exact StaticIs.there (s := { Z with heap := U.heap }) ⟨cfS, iS, kS, fS, st, cS, t1, t2, t3, t4, t5, (fun q => by rw [q] at t6; cases t6), t7⟩ al rfl
/-- **length() OF SUCH A STRING** -/
theorem lenW {p : Program} {l : Launch} {e : Env} {R : Room} {s : State} {args : Array Value} {below : List Frame} {len W : Nat} {Z : State} {a0 : Array Value} {h : Heap} (hZ : Z.Warmed39 s.vm) (hw : ∀ d ∈ wordsLen, d.before a0 Z = true) {kI : Nat} (wi : (Jvm.Cond.instantiable ST kI).before a0 Z = true)
    {x t : Addr} {kb : ClassId} {cs : List Int32} {cd N2 z : Int32} {vs : List Value} (E : RoadKit.Exa Z h x ST) (V : RoadKit.Fld Z h x ST "value" "[B" (.ref t)) (C : RoadKit.Fld Z h x ST "coder" "B" (.int cd)) (K : RoadKit.Arv Z h t kb .byte N2 vs (.int 0)) (hc : CodA cs cd N2 vs) (hb : ∀ c ∈ cs, ¬ c < 0 ∧ ¬ (65535 : Int32) < c)
    (S : RoadKit.Sta Z h ST "COMPACT_STRINGS" "Z" (.int z)) (hz : ¬ z = 0) (l2 : cs.length ≤ 4000) (hfr : 2 ≤ R.frames) (hlo : W + 25 ≤ R.locals) :
    Back l R p e below s args (⟨"java/lang/String", "length", "()I"⟩ : MethodName) len W (fun P a => a = #[.ref x] ∧ P.U.heap = h ∧ P.cells + 0 ≤ R.cells ∧ P.slots + 0 ≤ R.slots)
      (fun P _ v B => ∃ L, (v = some (.int (Int32.ofNat cs.length)) ∧ L = [] ∧ B.U.heap = h) ∧ B.locs = P.locs ++ L ∧ B.cells = P.cells + 0 ∧ B.slots = P.slots + 0) := by
  obtain ⟨A, K1, K2, K3, K4, K5, K6⟩ := K
  have hcod := hc.cod (by omega) K3 K5
  intro m meth c P g ig mk a X hg hsize hdg hW hn hp'
  obtain ⟨rfl, rfl, r1, r2⟩ := hp'
  have al : Z.vm.Alike P.U.vm := hZ.alike.trans X.warmed.alike
  obtain ⟨D, fV, fC, hB, F1, F2, g1, g2, -, -⟩ := strObj wi al E V C
  have hx : Txt x t A cd cs.length (fun j => cs.getD j 0) P.U := ⟨⟨_, hB.2.2.1, D, hB.1, rfl, by cases q : D.vm <;> first | rfl | exact absurd q (hB.2.1.2 _)⟩, Has.of hB F1 g1, Has.of hB F2 g2, ⟨K1.1, State.isArrayOf_alike al K1.2.1, K1.2.2, by rcases hcod with ⟨-, q, -⟩ | ⟨-, q, -⟩ <;> omega⟩, hcod, fun j hj => by
    have e : cs.getD j 0 = cs[j] := by simp [List.getD_eq_getElem?_getD, hj]
    show ¬ cs.getD j 0 < 0 ∧ ¬ 65535 < cs.getD j 0
    rw [e]; exact hb _ (List.getElem_mem _)⟩
  obtain ⟨v, B, X', ⟨⟨hv, hh⟩, hl, hk, hs⟩, st⟩ := Len.pays x t A cd cs.length (fun j => cs.getD j 0) z (tabLen_of (movedLen hZ hw)) hfr hlo m meth c P g ig mk _ X hg hsize hdg hW hn ⟨r1, r2, rfl, hx, sta_is al S, hz⟩
  exact ⟨v, B, X', ⟨[], ⟨hv, rfl, hh⟩, hl, hk, hs⟩, st⟩
end StrChars.Road
namespace StrChars
open Jvm Sem ClassFile Op Lib Jvm.Stand Jvm.Free.XT Jvm.Free.ALB Jvm.Free.JM Jvm.Free
open Jvm.Lib.Cold (StaticIs)
/-- what place i of a byte[]'s cell holds -/
def yv (A : Cell) (i : Nat) : Int32 := match A.slots[i]? with | some (.int x) => x | _ => 0
theorem yv_get {a : Addr} {A : Cell} {U : State} (h : XT.Arr .byte a A U) (ht : Typed .byte A) {i : Nat} (hi : i < A.slots.size) : A.slots[i]? = some (.int (yv A i)) := by
  have e := Array.getElem?_eq_getElem hi
  have f := ht i _ e
  unfold yv; rw [e]
  generalize A.slots[i] = v at f
  cases v <;> simp [fits] at f ⊢
/-- the two arrays are equal, place for place -/
def EqC (A B : Cell) : Prop := A.slots.size = B.slots.size ∧ ∀ i, i < A.slots.size → yv A i = yv B i
/-- a boolean that says whether p -/
def Says01 (q : Prop) (r : Option Value) (s u : State) : Prop := ∃ v : Int32, r = some (.int v) ∧ u.heap = s.heap ∧ ((v = 1 ∧ q) ∨ (v = 0 ∧ ¬ q))
theorem Says01.mv {q : Prop} : ∀ r (U U' V V' : State), U'.heap = U.heap → V.vm.Alike V'.vm → V'.heap = V.heap → Says01 q r U V → Says01 q r U' V' :=
  fun r U U' V V' h1 _ h2 ⟨v, a, b, c⟩ => ⟨v, a, by rw [h1, h2]; exact b, c⟩
namespace LEq
def yN : MethodName := ⟨"java/lang/StringLatin1", "equals", "([B[B)Z"⟩
abbrev yB : ByteArray := jdk_43_method_13_code
theorem d0 : decode yB 0 = .ok (.aload_n 0, 1) := by decide +kernel
theorem d1 : decode yB 1 = .ok (.arraylength, 1) := by decide +kernel
theorem d2 : decode yB 2 = .ok (.aload_n 1, 1) := by decide +kernel
theorem d3 : decode yB 3 = .ok (.arraylength, 1) := by decide +kernel
theorem d4 : decode yB 4 = .ok (.if_icmp (.ne) 30, 3) := by decide +kernel
theorem d7 : decode yB 7 = .ok (.iconst 0, 1) := by decide +kernel
theorem d8 : decode yB 8 = .ok (.istore_n 2, 1) := by decide +kernel
theorem d9 : decode yB 9 = .ok (.iload_n 2, 1) := by decide +kernel
theorem d10 : decode yB 10 = .ok (.aload_n 0, 1) := by decide +kernel
theorem d11 : decode yB 11 = .ok (.arraylength, 1) := by decide +kernel
theorem d12 : decode yB 12 = .ok (.if_icmp (.ge) 20, 3) := by decide +kernel
theorem d15 : decode yB 15 = .ok (.aload_n 0, 1) := by decide +kernel
theorem d16 : decode yB 16 = .ok (.iload_n 2, 1) := by decide +kernel
theorem d17 : decode yB 17 = .ok (.baload, 1) := by decide +kernel
theorem d18 : decode yB 18 = .ok (.aload_n 1, 1) := by decide +kernel
theorem d19 : decode yB 19 = .ok (.iload_n 2, 1) := by decide +kernel
theorem d20 : decode yB 20 = .ok (.baload, 1) := by decide +kernel
theorem d21 : decode yB 21 = .ok (.if_icmp (.eq) 5, 3) := by decide +kernel
theorem d24 : decode yB 24 = .ok (.iconst 0, 1) := by decide +kernel
theorem d25 : decode yB 25 = .ok (.ireturn, 1) := by decide +kernel
theorem d26 : decode yB 26 = .ok (.iinc 2 1, 3) := by decide +kernel
theorem d29 : decode yB 29 = .ok (.goto (-20), 3) := by decide +kernel
theorem d32 : decode yB 32 = .ok (.iconst 1, 1) := by decide +kernel
theorem d33 : decode yB 33 = .ok (.ireturn, 1) := by decide +kernel
theorem d34 : decode yB 34 = .ok (.iconst 0, 1) := by decide +kernel
theorem d35 : decode yB 35 = .ok (.ireturn, 1) := by decide +kernel
def site : List Cond := []
def tab : Cond := tabOf yN yB 3 (some .boolean) site
def P (a : Addr) (A : Cell) (b : Addr) (B : Cell) (args : Array Value) (s : State) : Prop := args = #[.ref a, .ref b] ∧ XT.Arr .byte a A s ∧ Typed .byte A ∧ XT.Arr .byte b B s ∧ Typed .byte B
/-- whether two byte[] are equal, place for place -/
theorem law (l : Launch) (a : Addr) (A : Cell) (b : Addr) (B : Cell) : Law l yN 2 2 0 0 yB 3 (some .boolean) site (P a A b B) (Says01 (EqC A B)) [] 0 0 := by
  refine Law.of_walk (plainFor_of_name (by decide +kernel)) (by decide +kernel) (by decide +kernel) (by decide) (fun _ _ h => by rw [h.1]; rfl) (fun _ U U' hal hh h => ⟨h.1, h.2.1.mv hal hh, h.2.2.1, h.2.2.2.1.mv hal hh, h.2.2.2.2⟩) (fun r U U' V V' h1 hal h2 h => Says01.mv r U U' V V' h1 hal h2 h) ?_
  intro p e s m args below meth c s₁ X0 hexec hbytes hml hret hlk hnm hown hh0 W hP
  obtain ⟨rfl, hA, tA, hB, tB⟩ := hP
  have a31 := hA.2.2.2
  have b31 := hB.2.2.2
  have hA0 := hA.mv X0.warmed.alike hh0
  have hB0 := hB.mv X0.warmed.alike hh0
  have c1 : Steps p.tables e below (s₁.setTop (entryFrame m #[.ref a, .ref b] 3)) (s₁.setTop (mkF m 0 #[.val (.ref a), .val (.ref b), .unset] [])) := entry rfl
  have c2 : Steps p.tables e below (s₁.setTop (entryFrame m #[.ref a, .ref b] 3)) (s₁.setTop (mkF m 4 #[.val (.ref a), .val (.ref b), .unset] [.int (Int32.ofNat B.slots.size), .int (Int32.ofNat A.slots.size)])) := c1.trans (by
    refine XS.aloadN X0.here hexec rfl (hb hbytes d0) rfl rfl ?_
    refine X0.alen hexec hA0 rfl rfl (hb hbytes d1) ?_
    refine XS.aloadN X0.here hexec rfl (hb hbytes d2) rfl rfl ?_
    refine X0.alen hexec hB0 rfl rfl (hb hbytes d3) ?_
    exact Steps.refl _)
  by_cases hs : A.slots.size = B.slots.size
  · have c3 : Steps p.tables e below (s₁.setTop (entryFrame m #[.ref a, .ref b] 3)) (s₁.setTop (mkF m 9 #[.val (.ref a), .val (.ref b), .val (.int 0)] [])) := c2.trans (by
      refine XS.icmpNo X0.here hexec rfl (hb hbytes d4) rfl (ii_ne_f (by rw [hs])) ?_
      refine iconstV X0.here hexec rfl 0 (hb hbytes d7) (by decide) ?_
      refine XS.istoreN X0.here hexec rfl (hb hbytes d8) rfl rfl ?_
      exact Steps.refl _)
    have loop : ∀ (r i : Nat), i + r = A.slots.size → (∀ j, j < i → yv A j = yv B j) → Steps p.tables e below (s₁.setTop (entryFrame m #[.ref a, .ref b] 3)) (s₁.setTop (mkF m 9 #[.val (.ref a), .val (.ref b), .val (.int (Int32.ofNat i))] [])) → ∃ (pc : Nat) (Ls : Array Slot) (v : Int32), (pc = 25 ∨ pc = 33) ∧ ((v = 1 ∧ EqC A B) ∨ (v = 0 ∧ ¬ EqC A B)) ∧ Steps p.tables e below (s₁.setTop (entryFrame m #[.ref a, .ref b] 3)) (s₁.setTop (mkF m pc Ls [.int v])) := by
      intro r
      induction r with
      | zero =>
        intro i hi he cl
        exact ⟨33, _, 1, Or.inr rfl, Or.inl ⟨rfl, hs, fun j hj => he j (by omega)⟩, cl.trans (by
          refine XS.iloadN X0.here hexec rfl (hb hbytes d9) rfl ?_
          refine XS.aloadN X0.here hexec rfl (hb hbytes d10) rfl rfl ?_
          refine X0.alen hexec hA0 rfl rfl (hb hbytes d11) ?_
          refine XS.icmpYes X0.here hexec rfl (pc0 := 12) rfl (hb hbytes d12) rfl (ii_ge_t (nlt32 (by omega) (by omega))) (by decide) rfl ?_
          refine iconstV X0.here hexec rfl 1 (hb hbytes d32) (by decide) ?_
          exact Steps.refl _)⟩
      | succ r ih =>
        intro i hi he cl
        have c4 : Steps p.tables e below (s₁.setTop (entryFrame m #[.ref a, .ref b] 3)) (s₁.setTop (mkF m 21 #[.val (.ref a), .val (.ref b), .val (.int (Int32.ofNat i))] [.int (yv B i), .int (yv A i)])) := cl.trans (by
          refine XS.iloadN X0.here hexec rfl (hb hbytes d9) rfl ?_
          refine XS.aloadN X0.here hexec rfl (hb hbytes d10) rfl rfl ?_
          refine X0.alen hexec hA0 rfl rfl (hb hbytes d11) ?_
          refine XS.icmpNo X0.here hexec rfl (hb hbytes d12) rfl (ii_ge_f (lt32 (by omega) (by omega))) ?_
          refine XS.aloadN X0.here hexec rfl (hb hbytes d15) rfl rfl ?_
          refine XS.iloadN X0.here hexec rfl (hb hbytes d16) rfl ?_
          refine X0.aget hexec hA0 rfl (yv_get hA tA (i := i) (by omega)) rfl rfl (hb hbytes d17) ?_
          refine XS.aloadN X0.here hexec rfl (hb hbytes d18) rfl rfl ?_
          refine XS.iloadN X0.here hexec rfl (hb hbytes d19) rfl ?_
          refine X0.aget hexec hB0 rfl (yv_get hB tB (i := i) (by omega)) rfl rfl (hb hbytes d20) ?_
          exact Steps.refl _)
        by_cases hv : yv A i = yv B i
        · have c5 : Steps p.tables e below (s₁.setTop (entryFrame m #[.ref a, .ref b] 3)) (s₁.setTop (mkF m 9 #[.val (.ref a), .val (.ref b), .val (.int (Int32.ofNat i + 1))] [])) := c4.trans (by
            refine XS.icmpYes X0.here hexec rfl (pc0 := 21) rfl (hb hbytes d21) rfl (ii_eq_t hv) (by decide) rfl ?_
            refine iincV X0.here hexec rfl 1 (hb hbytes d26) (by decide) rfl rfl ?_
            refine XS.goto X0.here hexec rfl (pc0 := 29) rfl (hb hbytes d29) (by decide) rfl ?_
            exact Steps.refl _)
          rw [succ32] at c5
          exact ih (i + 1) (by omega) (fun j hj => by
            by_cases e : j = i
            · rw [e]; exact hv
            · exact he j (by omega)) c5
        · exact ⟨25, _, 0, Or.inl rfl, Or.inr ⟨rfl, fun q => hv (q.2 i (by omega))⟩, c4.trans (by
            refine XS.icmpNo X0.here hexec rfl (hb hbytes d21) rfl (ii_eq_f hv) ?_
            refine iconstV X0.here hexec rfl 0 (hb hbytes d24) (by decide) ?_
            exact Steps.refl _)⟩
    obtain ⟨pc, Ls, v, hpc, hv, cz⟩ := loop A.slots.size 0 (by omega) (fun j hj => absurd hj (Nat.not_lt_zero j)) c3
    have nv : narrow .boolean (.int v) = .int v := by rcases hv with ⟨rfl, -⟩ | ⟨rfl, -⟩ <;> rfl
    rcases hpc with rfl | rfl
    · exact ⟨s₁, some (.int v), _, _, _, X0, rfl, rfl, rfl, (fun h => by cases h), ⟨v, rfl, hh0, hv⟩, fun fs hl => cz.trans (X0.ireturnOut hexec hret nv (Or.inr (Or.inl rfl)) (hb hbytes d25) hl)⟩
    · exact ⟨s₁, some (.int v), _, _, _, X0, rfl, rfl, rfl, (fun h => by cases h), ⟨v, rfl, hh0, hv⟩, fun fs hl => cz.trans (X0.ireturnOut hexec hret nv (Or.inr (Or.inl rfl)) (hb hbytes d33) hl)⟩
  · have c3 : Steps p.tables e below (s₁.setTop (entryFrame m #[.ref a, .ref b] 3)) (s₁.setTop (mkF m 35 #[.val (.ref a), .val (.ref b), .unset] [.int 0])) := c2.trans (by
      refine XS.icmpYes X0.here hexec rfl (pc0 := 4) rfl (hb hbytes d4) rfl (ii_ne_t (ne32 a31 b31 hs)) (by decide) rfl ?_
      refine iconstV X0.here hexec rfl 0 (hb hbytes d34) (by decide) ?_
      exact Steps.refl _)
    exact ⟨s₁, some (.int 0), _, _, _, X0, rfl, rfl, rfl, (fun h => by cases h), ⟨0, rfl, hh0, Or.inr ⟨rfl, fun q => hs q.1⟩⟩, fun fs hl => c3.trans (X0.ireturnOut hexec hret rfl (Or.inr (Or.inl rfl)) (hb hbytes d35) hl)⟩
end LEq
theorem Cod.ty {cd : Int32} {n : Nat} {f : Nat → Int32} {V : Cell} (h : Cod cd n f V) : Typed .byte V := fun i v hv => by
  have hi : i < V.slots.size := (Array.getElem?_eq_some_iff.mp hv).1
  rcases h with ⟨-, k1, k2⟩ | ⟨-, k1, k2, -⟩
  · rw [(k2 i (by omega)).1] at hv; cases hv; exact fits_lo8 _
  · rcases Nat.mod_two_eq_zero_or_one i with e | e
    · obtain ⟨j, rfl⟩ : ∃ j, i = 2 * j := ⟨i / 2, by omega⟩
      rw [(k2 j (by omega)).1] at hv; cases hv; exact fits_lo8 _
    · obtain ⟨j, rfl⟩ : ∃ j, i = 2 * j + 1 := ⟨i / 2, by omega⟩
      rw [(k2 j (by omega)).2] at hv; cases hv; exact fits_lo8 _
/-- the same text -/
def SameT (n : Nat) (f : Nat → Int32) (k : Nat) (g : Nat → Int32) : Prop := n = k ∧ ∀ j, j < n → f j = g j
theorem lo8_inj {x y : Int32} (h0 : ¬ x < 0) (h1 : ¬ 255 < x) (k0 : ¬ y < 0) (k1 : ¬ 255 < y) (h : lo8 x = lo8 y) : x = y := by
  rw [← lo8_mask h0 h1, ← lo8_mask k0 k1, h]
/-- arrays coded by one coder are equal just where the texts are -/
theorem Cod.eqv {cd : Int32} {n k : Nat} {f g : Nat → Int32} {V V' : Cell} (h : Cod cd n f V) (h' : Cod cd k g V') (hf : ∀ j, j < n → ¬ f j < 0 ∧ ¬ 65535 < f j) (hg : ∀ j, j < k → ¬ g j < 0 ∧ ¬ 65535 < g j) : EqC V V' ↔ SameT n f k g := by
  have yvv : ∀ {W : Cell} {i : Nat} {x : Int32}, W.slots[i]? = some (.int x) → yv W i = x := fun q => by unfold yv; rw [q]
  rcases h with ⟨rfl, k1, k2⟩ | ⟨rfl, k1, k2, -⟩
  · rcases h' with ⟨-, m1, m2⟩ | ⟨e, -⟩
    · constructor
      · rintro ⟨e1, e2⟩
        refine ⟨by omega, fun j hj => ?_⟩
        have q := e2 j (by omega)
        rw [yvv (k2 j hj).1, yvv (m2 j (by omega)).1] at q
        exact lo8_inj (hf j hj).1 (k2 j hj).2 (hg j (by omega)).1 (m2 j (by omega)).2 q
      · rintro ⟨rfl, e2⟩
        refine ⟨by omega, fun j hj => ?_⟩
        rw [yvv (k2 j (by omega)).1, yvv (m2 j (by omega)).1, e2 j (by omega)]
    · exact absurd e (by decide)
  · rcases h' with ⟨e, -⟩ | ⟨-, m1, m2, -⟩
    · exact absurd e (by decide)
    · constructor
      · rintro ⟨e1, e2⟩
        refine ⟨by omega, fun j hj => ?_⟩
        have q1 := e2 (2 * j) (by omega)
        have q2 := e2 (2 * j + 1) (by omega)
        rw [yvv (k2 j hj).1, yvv (m2 j (by omega)).1] at q1
        rw [yvv (k2 j hj).2, yvv (m2 j (by omega)).2] at q2
        rw [← pair_says (hf j hj).1 (hf j hj).2, ← pair_says (hg j (by omega)).1 (hg j (by omega)).2, q1, q2]
      · rintro ⟨rfl, e2⟩
        refine ⟨by omega, fun i hi => ?_⟩
        rcases Nat.mod_two_eq_zero_or_one i with e | e
        · obtain ⟨j, rfl⟩ : ∃ j, i = 2 * j := ⟨i / 2, by omega⟩
          rw [yvv (k2 j (by omega)).1, yvv (m2 j (by omega)).1, e2 j (by omega)]
        · obtain ⟨j, rfl⟩ : ∃ j, i = 2 * j + 1 := ⟨i / 2, by omega⟩
          rw [yvv (k2 j (by omega)).2, yvv (m2 j (by omega)).2, e2 j (by omega)]
/-- two codings differ: so do the texts -/
theorem Cod.dif {cd cd' : Int32} {n k : Nat} {f g : Nat → Int32} {V V' : Cell} (h : Cod cd n f V) (h' : Cod cd' k g V') (hne : ¬ cd = cd') : ¬ SameT n f k g := by
  rintro ⟨rfl, e⟩
  rcases h with ⟨rfl, -, k2⟩ | ⟨rfl, -, -, j, hj, hw⟩
  · rcases h' with ⟨rfl, -⟩ | ⟨-, -, -, j, hj, hw⟩
    · exact hne rfl
    · exact (k2 j hj).2 (by rw [e j hj]; exact hw)
  · rcases h' with ⟨-, -, m2⟩ | ⟨rfl, -⟩
    · exact (m2 j hj).2 (by rw [← e j hj]; exact hw)
    · exact hne rfl
/-- an object of exactly C is an instance of C -/
theorem cinst {p : Program} {l : Launch} {e : Env} {R : Room} {s : State} {m : MethodId} {args : Array Value} {below : List Frame} {meth : Method} {c : Code} {T : State} {locs : List Loc} {cells slots : Nat} (X : Stand p l e R s m args below meth c T locs cells slots) (hexec : p.tables.exec = Jvm.exec) {own C : String} {index : Nat} (hown : s.vm.findClass own = some m.cls) (hlink : (Cond.classLink own index C).before args s = true) {a : Addr} (hE : Exact C a T)
    {g : JFrame} (hg : g.method = m) {rest : List Value} (hstack : g.stack = .ref a :: rest) (hdg : decode c.code g.pc = .ok (.instanceof index, 3)) :
    ∃ T', Stand p l e R s m args below meth c T' locs cells slots ∧ T'.heap = T.heap ∧ ∀ target, Steps p.tables e below (T'.setTop { g with pc := g.pc + 3, stack := .int 1 :: rest }) target → Steps p.tables e below (T.setTop g) target := by
  obtain ⟨cB, h1, D, h2, h3, h4⟩ := hE
  have h1' : s.vm.findClass C = some cB := by rw [← X.warmed.alike.findClass]; exact h1
  obtain ⟨vm', X', st⟩ := X.instanceofYes hexec hown hlink h2 h4 h1' (by rw [h3]; exact Jvm.Free.SB.assignable_self _ _) hg hstack hdg
  exact ⟨_, X', rfl, st⟩
theorem cself {p : Program} {l : Launch} {e : Env} {R : Room} {s : State} {m : MethodId} {args : Array Value} {below : List Frame} {meth : Method} {c : Code} {T : State} {locs : List Loc} {cells slots : Nat} (X : Stand p l e R s m args below meth c T locs cells slots) (hexec : p.tables.exec = Jvm.exec) {own C : String} {index : Nat} (hown : s.vm.findClass own = some m.cls) (hlink : (Cond.classLink own index C).before args s = true) {a : Addr} (hE : Exact C a T)
    {g : JFrame} (hg : g.method = m) {rest : List Value} (hstack : g.stack = .ref a :: rest) (hdg : decode c.code g.pc = .ok (.checkcast index, 3)) :
    ∃ T', Stand p l e R s m args below meth c T' locs cells slots ∧ T'.heap = T.heap ∧ ∀ target, Steps p.tables e below (T'.setTop { g with pc := g.pc + 3, stack := .ref a :: rest }) target → Steps p.tables e below (T.setTop g) target := by
  obtain ⟨cB, h1, D, h2, h3, h4⟩ := hE
  have h1' : s.vm.findClass C = some cB := by rw [← X.warmed.alike.findClass]; exact h1
  obtain ⟨vm', X', st⟩ := X.checkcastYes hexec hown hlink h2 h4 h1' (by rw [h3]; exact Jvm.Free.SB.assignable_self _ _) hg hstack hdg
  exact ⟨_, X', rfl, fun t h => st t (by rw [← hstack] at h; exact h)⟩
namespace SEq
def yN : MethodName := ⟨"java/lang/String", "equals", "(Ljava/lang/Object;)Z"⟩
abbrev yB : ByteArray := jdk_42_method_66_code
theorem d0 : decode yB 0 = .ok (.aload_n 0, 1) := by decide +kernel
theorem d1 : decode yB 1 = .ok (.aload_n 1, 1) := by decide +kernel
theorem d2 : decode yB 2 = .ok (.if_acmp (.ne) 5, 3) := by decide +kernel
theorem d5 : decode yB 5 = .ok (.iconst 1, 1) := by decide +kernel
theorem d6 : decode yB 6 = .ok (.ireturn, 1) := by decide +kernel
theorem d7 : decode yB 7 = .ok (.aload_n 1, 1) := by decide +kernel
theorem d8 : decode yB 8 = .ok (.instanceof 10, 3) := by decide +kernel
theorem d11 : decode yB 11 = .ok (.ifCond (.eq) 43, 3) := by decide +kernel
theorem d14 : decode yB 14 = .ok (.aload_n 1, 1) := by decide +kernel
theorem d15 : decode yB 15 = .ok (.checkcast 10, 3) := by decide +kernel
theorem d18 : decode yB 18 = .ok (.astore_n 2, 1) := by decide +kernel
theorem d19 : decode yB 19 = .ok (.getstatic 38, 3) := by decide +kernel
theorem d22 : decode yB 22 = .ok (.ifCond (.eq) 14, 3) := by decide +kernel
theorem d25 : decode yB 25 = .ok (.aload_n 0, 1) := by decide +kernel
theorem d26 : decode yB 26 = .ok (.getfield 15, 3) := by decide +kernel
theorem d29 : decode yB 29 = .ok (.aload_n 2, 1) := by decide +kernel
theorem d30 : decode yB 30 = .ok (.getfield 15, 3) := by decide +kernel
theorem d33 : decode yB 33 = .ok (.if_icmp (.ne) 21, 3) := by decide +kernel
theorem d36 : decode yB 36 = .ok (.aload_n 0, 1) := by decide +kernel
theorem d37 : decode yB 37 = .ok (.getfield 9, 3) := by decide +kernel
theorem d40 : decode yB 40 = .ok (.aload_n 2, 1) := by decide +kernel
theorem d41 : decode yB 41 = .ok (.getfield 9, 3) := by decide +kernel
theorem d44 : decode yB 44 = .ok (.invokestatic 541, 3) := by decide +kernel
theorem d47 : decode yB 47 = .ok (.ifCond (.eq) 7, 3) := by decide +kernel
theorem d50 : decode yB 50 = .ok (.iconst 1, 1) := by decide +kernel
theorem d51 : decode yB 51 = .ok (.goto 4, 3) := by decide +kernel
theorem d54 : decode yB 54 = .ok (.iconst 0, 1) := by decide +kernel
theorem d55 : decode yB 55 = .ok (.ireturn, 1) := by decide +kernel
def site : List Cond := [.classLink "java/lang/String" 10 "java/lang/String", .fieldLink "java/lang/String" 38 "java/lang/String" "COMPACT_STRINGS" "Z", .fieldLink "java/lang/String" 15 "java/lang/String" "coder" "B", .fieldLink "java/lang/String" 9 "java/lang/String" "value" "[B", LEq.tab] ++ staticW "java/lang/String" 541 LEq.yN
def tab : Cond := tabOf yN yB 3 (some .boolean) site
def P (x t : Addr) (V : Cell) (cd : Int32) (n : Nat) (f : Nat → Int32) (y t' : Addr) (V' : Cell) (cd' : Int32) (k : Nat) (g : Nat → Int32) (z : Int32) (args : Array Value) (s : State) : Prop := args = #[.ref x, .ref y] ∧ Txt x t V cd n f s ∧ Txt y t' V' cd' k g s ∧ StaticIs s "java/lang/String" "COMPACT_STRINGS" "Z" (.int z) ∧ ¬ z = 0
/-- equals(Object) of two Strings: whether the texts are the same -/
theorem law (l : Launch) (x t : Addr) (V : Cell) (cd : Int32) (n : Nat) (f : Nat → Int32) (y t' : Addr) (V' : Cell) (cd' : Int32) (k : Nat) (g : Nat → Int32) (z : Int32) : Law l yN 2 1 1 14 yB 3 (some .boolean) site (P x t V cd n f y t' V' cd' k g z) (Says01 (SameT n f k g)) [] 0 0 := by
  refine Law.of_walk (plainFor_of_name (by decide +kernel)) (by decide +kernel) (by decide +kernel) (by decide) (fun _ _ h => by rw [h.1]; rfl) (fun _ U U' hal hh h => ⟨h.1, h.2.1.mv hal hh, h.2.2.1.mv hal hh, h.2.2.2.1.there hal hh, h.2.2.2.2⟩) (fun r U U' V V' h1 hal h2 h => Says01.mv r U U' V V' h1 hal h2 h) ?_
  intro p e s m args below meth c s₁ X0 hexec hbytes hml hret hlk hnm hown hh0 W hP
  obtain ⟨rfl, hx, hy, s1, hz⟩ := hP
  have c1 : Steps p.tables e below (s₁.setTop (entryFrame m #[.ref x, .ref y] 3)) (s₁.setTop (mkF m 2 #[.val (.ref x), .val (.ref y), .unset] [.ref y, .ref x])) := Steps.trans (entry rfl) (by
    show Steps p.tables e below (s₁.setTop (mkF m 0 #[.val (.ref x), .val (.ref y), .unset] [])) _
    refine XS.aloadN X0.here hexec rfl (hb hbytes d0) rfl rfl ?_
    refine XS.aloadN X0.here hexec rfl (hb hbytes d1) rfl rfl ?_
    exact Steps.refl _)
  by_cases hxy : x = y
  · have c2 : Steps p.tables e below (s₁.setTop (entryFrame m #[.ref x, .ref y] 3)) (s₁.setTop (mkF m 6 #[.val (.ref x), .val (.ref y), .unset] [.int 1])) := c1.trans (by
      refine acmpNo X0.here hexec rfl (hb hbytes d2) rfl rfl rfl (by simp [acmp, hxy]) ?_
      refine iconstV X0.here hexec rfl 1 (hb hbytes d5) (by decide) ?_
      exact Steps.refl _)
    subst hxy
    have ec : cd = cd' := by
      obtain ⟨D, fd, a1, a2, a3⟩ := hx.2.2.1
      obtain ⟨D', fd', b1, b2, b3⟩ := hy.2.2.1
      cases a1.symm.trans b1
      obtain ⟨q1, q2, q3, q4⟩ := a2.1
      obtain ⟨r1, r2, r3, r4⟩ := b2.1
      cases q4.symm.trans r4
      cases a3.symm.trans b3; rfl
    have et : t = t' := by
      obtain ⟨D, fd, a1, a2, a3⟩ := hx.2.1
      obtain ⟨D', fd', b1, b2, b3⟩ := hy.2.1
      cases a1.symm.trans b1
      obtain ⟨q1, q2, q3, q4⟩ := a2.1
      obtain ⟨r1, r2, r3, r4⟩ := b2.1
      cases q4.symm.trans r4
      cases a3.symm.trans b3; rfl
    subst ec et
    have ev : V = V' := by cases hx.2.2.2.1.1.symm.trans hy.2.2.2.1.1; rfl
    subst ev
    have hs : SameT n f k g := (Cod.eqv hx.2.2.2.2.1 hy.2.2.2.2.1 hx.2.2.2.2.2 hy.2.2.2.2.2).mp ⟨rfl, fun _ _ => rfl⟩
    exact ⟨s₁, some (.int 1), _, _, _, X0, rfl, rfl, rfl, (fun h => by cases h), ⟨1, rfl, hh0, Or.inl ⟨rfl, hs⟩⟩, fun fs hl => c2.trans (X0.ireturnOut hexec hret rfl (Or.inr (Or.inl rfl)) (hb hbytes d6) hl)⟩
  · have c2 : Steps p.tables e below (s₁.setTop (entryFrame m #[.ref x, .ref y] 3)) (s₁.setTop (mkF m 8 #[.val (.ref x), .val (.ref y), .unset] [.ref y])) := c1.trans (by
      refine acmpYes X0.here hexec rfl (pc0 := 2) rfl (hb hbytes d2) rfl rfl rfl (by simp [acmp, hxy]) (by decide) rfl ?_
      refine XS.aloadN X0.here hexec rfl (hb hbytes d7) rfl rfl ?_
      exact Steps.refl _)
    obtain ⟨T3, X3, q3, st3⟩ := cinst X0 hexec hown (wk W (.classLink "java/lang/String" 10 "java/lang/String")) (hy.mv X0.warmed.alike hh0).1 (g := (mkF m 8 #[.val (.ref x), .val (.ref y), .unset] [.ref y])) rfl (rest := []) rfl (hb hbytes d8)
    have hh3 := q3.trans hh0
    have c4 : Steps p.tables e below (s₁.setTop (entryFrame m #[.ref x, .ref y] 3)) (T3.setTop (mkF m 15 #[.val (.ref x), .val (.ref y), .unset] [.ref y])) := (c2.trans (st3 _ (Steps.refl _))).trans (by
      refine XS.ifNo X3.here hexec rfl (hb hbytes d11) rfl (i0_eq_f (by decide)) ?_
      refine XS.aloadN X3.here hexec rfl (hb hbytes d14) rfl rfl ?_
      exact Steps.refl _)
    obtain ⟨T5, X5, q5, st5⟩ := cself X3 hexec hown (wk W (.classLink "java/lang/String" 10 "java/lang/String")) (hy.mv X3.warmed.alike hh3).1 (g := (mkF m 15 #[.val (.ref x), .val (.ref y), .unset] [.ref y])) rfl (rest := []) rfl (hb hbytes d15)
    have hh5 := q5.trans hh3
    have c6 : Steps p.tables e below (s₁.setTop (entryFrame m #[.ref x, .ref y] 3)) (T5.setTop (mkF m 19 #[.val (.ref x), .val (.ref y), .val (.ref y)] [])) := (c4.trans (st5 _ (Steps.refl _))).trans (by
      refine XS.astoreN X5.here hexec rfl (hb hbytes d18) rfl rfl rfl ?_
      exact Steps.refl _)
    obtain ⟨T7, X7, q7, st7⟩ := X5.sget hexec hown (wk W (.fieldLink "java/lang/String" 38 "java/lang/String" "COMPACT_STRINGS" "Z")) s1 (fun _ _ h => by rw [hh5]; exact h) (g := (mkF m 19 #[.val (.ref x), .val (.ref y), .val (.ref y)] [])) rfl (hb hbytes d19)
    have hh7 := q7.trans hh5
    have c8 : Steps p.tables e below (s₁.setTop (entryFrame m #[.ref x, .ref y] 3)) (T7.setTop (mkF m 26 #[.val (.ref x), .val (.ref y), .val (.ref y)] [.ref x])) := (c6.trans (st7 _ (Steps.refl _))).trans (by
      refine XS.ifNo X7.here hexec rfl (hb hbytes d22) rfl (i0_eq_f hz) ?_
      refine XS.aloadN X7.here hexec rfl (hb hbytes d25) rfl rfl ?_
      exact Steps.refl _)
    obtain ⟨T9, X9, q9, st9⟩ := X7.hget hexec hown (wk W (.fieldLink "java/lang/String" 15 "java/lang/String" "coder" "B")) (hx.mv X7.warmed.alike hh7).2.2.1 (g := (mkF m 26 #[.val (.ref x), .val (.ref y), .val (.ref y)] [.ref x])) rfl (rest := []) rfl (hb hbytes d26)
    have hh9 := q9.trans hh7
    have c10 : Steps p.tables e below (s₁.setTop (entryFrame m #[.ref x, .ref y] 3)) (T9.setTop (mkF m 30 #[.val (.ref x), .val (.ref y), .val (.ref y)] [.ref y, .int cd])) := (c8.trans (st9 _ (Steps.refl _))).trans (by
      refine XS.aloadN X9.here hexec rfl (hb hbytes d29) rfl rfl ?_
      exact Steps.refl _)
    obtain ⟨T11, X11, q11, st11⟩ := X9.hget hexec hown (wk W (.fieldLink "java/lang/String" 15 "java/lang/String" "coder" "B")) (hy.mv X9.warmed.alike hh9).2.2.1 (g := (mkF m 30 #[.val (.ref x), .val (.ref y), .val (.ref y)] [.ref y, .int cd])) rfl (rest := [.int cd]) rfl (hb hbytes d30)
    have hh11 := q11.trans hh9
    have c12 : Steps p.tables e below (s₁.setTop (entryFrame m #[.ref x, .ref y] 3)) (T11.setTop (mkF m 33 #[.val (.ref x), .val (.ref y), .val (.ref y)] [.int cd', .int cd])) := c10.trans (st11 _ (Steps.refl _))
    by_cases hcd : cd = cd'
    · subst hcd
      have c13 : Steps p.tables e below (s₁.setTop (entryFrame m #[.ref x, .ref y] 3)) (T11.setTop (mkF m 37 #[.val (.ref x), .val (.ref y), .val (.ref y)] [.ref x])) := c12.trans (by
        refine XS.icmpNo X11.here hexec rfl (hb hbytes d33) rfl (ii_ne_f rfl) ?_
        refine XS.aloadN X11.here hexec rfl (hb hbytes d36) rfl rfl ?_
        exact Steps.refl _)
      obtain ⟨T14, X14, q14, st14⟩ := X11.hget hexec hown (wk W (.fieldLink "java/lang/String" 9 "java/lang/String" "value" "[B")) (hx.mv X11.warmed.alike hh11).2.1 (g := (mkF m 37 #[.val (.ref x), .val (.ref y), .val (.ref y)] [.ref x])) rfl (rest := []) rfl (hb hbytes d37)
      have hh14 := q14.trans hh11
      have c15 : Steps p.tables e below (s₁.setTop (entryFrame m #[.ref x, .ref y] 3)) (T14.setTop (mkF m 41 #[.val (.ref x), .val (.ref y), .val (.ref y)] [.ref y, .ref t])) := (c13.trans (st14 _ (Steps.refl _))).trans (by
        refine XS.aloadN X14.here hexec rfl (hb hbytes d40) rfl rfl ?_
        exact Steps.refl _)
      obtain ⟨T16, X16, q16, st16⟩ := X14.hget hexec hown (wk W (.fieldLink "java/lang/String" 9 "java/lang/String" "value" "[B")) (hy.mv X14.warmed.alike hh14).2.1 (g := (mkF m 41 #[.val (.ref x), .val (.ref y), .val (.ref y)] [.ref y, .ref t])) rfl (rest := [.ref t]) rfl (hb hbytes d41)
      have hh16 := q16.trans hh14
      have c17 : Steps p.tables e below (s₁.setTop (entryFrame m #[.ref x, .ref y] 3)) (T16.setTop (mkF m 44 #[.val (.ref x), .val (.ref y), .val (.ref y)] [.ref t', .ref t])) := c15.trans (st16 _ (Steps.refl _))
      obtain ⟨v18, T18, X18, E18, g18⟩ := X16.callS hexec (LEq.law l t V t' V') hown (wks W (staticW "java/lang/String" 541 LEq.yN)) (wk W LEq.tab) (W := 0) (Nat.le_of_ble_eq_true rfl) (Nat.le_of_ble_eq_true rfl) (Nat.le_refl _) (Nat.le_refl _) (g := (mkF m 44 #[.val (.ref x), .val (.ref y), .val (.ref y)] [.ref t', .ref t])) rfl (by rw [hml]; rfl) c17 (argsL := [.ref t, .ref t']) (rest := []) rfl rfl (by show 2 * 0 + 0 ≤ _; decide) (hb hbytes d44) (⟨rfl, hx.2.2.2.1.mv X16.warmed.alike hh16, hx.2.2.2.2.1.ty, hy.2.2.2.1.mv X16.warmed.alike hh16, hy.2.2.2.2.1.ty⟩)
      obtain ⟨v, rfl, q18, hv⟩ := E18
      have iff := Cod.eqv hx.2.2.2.2.1 hy.2.2.2.2.1 hx.2.2.2.2.2 hy.2.2.2.2.2
      rcases hv with ⟨rfl, he⟩ | ⟨rfl, he⟩
      · have c19 : Steps p.tables e below (s₁.setTop (entryFrame m #[.ref x, .ref y] 3)) (T18.setTop (mkF m 55 #[.val (.ref x), .val (.ref y), .val (.ref y)] [.int 1])) := Steps.trans g18 (by
          refine XS.ifNo X18.here hexec rfl (hb hbytes d47) rfl (i0_eq_f (by decide)) ?_
          refine iconstV X18.here hexec rfl 1 (hb hbytes d50) (by decide) ?_
          refine XS.goto X18.here hexec rfl (pc0 := 51) rfl (hb hbytes d51) (by decide) rfl ?_
          exact Steps.refl _)
        exact ⟨T18, some (.int 1), _, _, _, X18, rfl, rfl, rfl, (fun h => by cases h), ⟨1, rfl, q18.trans hh16, Or.inl ⟨rfl, iff.mp he⟩⟩, fun fs hl => c19.trans (X18.ireturnOut hexec hret rfl (Or.inr (Or.inl rfl)) (hb hbytes d55) hl)⟩
      · have c19 : Steps p.tables e below (s₁.setTop (entryFrame m #[.ref x, .ref y] 3)) (T18.setTop (mkF m 55 #[.val (.ref x), .val (.ref y), .val (.ref y)] [.int 0])) := Steps.trans g18 (by
          refine XS.ifYes X18.here hexec rfl (pc0 := 47) rfl (hb hbytes d47) rfl (i0_eq_t rfl) (by decide) rfl ?_
          refine iconstV X18.here hexec rfl 0 (hb hbytes d54) (by decide) ?_
          exact Steps.refl _)
        exact ⟨T18, some (.int 0), _, _, _, X18, rfl, rfl, rfl, (fun h => by cases h), ⟨0, rfl, q18.trans hh16, Or.inr ⟨rfl, fun q => he (iff.mpr q)⟩⟩, fun fs hl => c19.trans (X18.ireturnOut hexec hret rfl (Or.inr (Or.inl rfl)) (hb hbytes d55) hl)⟩
    · have c13 : Steps p.tables e below (s₁.setTop (entryFrame m #[.ref x, .ref y] 3)) (T11.setTop (mkF m 55 #[.val (.ref x), .val (.ref y), .val (.ref y)] [.int 0])) := c12.trans (by
        refine XS.icmpYes X11.here hexec rfl (pc0 := 33) rfl (hb hbytes d33) rfl (ii_ne_t hcd) (by decide) rfl ?_
        refine iconstV X11.here hexec rfl 0 (hb hbytes d54) (by decide) ?_
        exact Steps.refl _)
      exact ⟨T11, some (.int 0), _, _, _, X11, rfl, rfl, rfl, (fun h => by cases h), ⟨0, rfl, hh11, Or.inr ⟨rfl, Cod.dif hx.2.2.2.2.1 hy.2.2.2.2.1 hcd⟩⟩, fun fs hl => c13.trans (X11.ireturnOut hexec hret rfl (Or.inr (Or.inl rfl)) (hb hbytes d55) hl)⟩
theorem pays {l : Launch} {R : Room} {p : Program} {e : Env} {below : List Frame} {s : State} {sargs : Array Value} {len W : Nat} (x t : Addr) (V : Cell) (cd : Int32) (n : Nat) (f : Nat → Int32) (y t' : Addr) (V' : Cell) (cd' : Int32) (k : Nat) (g : Nat → Int32) (z : Int32) (htab : tab.before sargs s = true) (hfr : 2 ≤ R.frames) (hlo : W + 28 ≤ R.locals) :
    Back l R p e below s sargs yN len W (fun A₁ a₁ => A₁.cells + 0 ≤ R.cells ∧ A₁.slots + 0 ≤ R.slots ∧ P x t V cd n f y t' V' cd' k g z a₁ A₁.U) (fun A₁ _ v₁ B₁ => Says01 (SameT n f k g) v₁ A₁.U B₁.U ∧ B₁.locs = A₁.locs ++ [] ∧ B₁.cells = A₁.cells + 0 ∧ B₁.slots = A₁.slots + 0) :=
  (law l x t V cd n f y t' V' cd' k g z).pays htab hfr (by omega)
end SEq
end StrChars
namespace StrChars.Road
open Jvm Sem ClassFile Op Lib Jvm.Stand Jvm.Free Jvm.Free.XT
open Jvm.Lib.Cold (StaticIs)
/-- the words of String.equals(Object) -/
abbrev wordsEq : List Jvm.Cond := [.code SEq.yN SEq.yB 3 (some .boolean), .initialized ST, .classLink ST 10 ST, .fieldLink ST 38 ST "COMPACT_STRINGS" "Z", .fieldLink ST 15 ST "coder" "B", .fieldLink ST 9 ST "value" "[B", .methodLink ST 541 LEq.yN, .static LEq.yN, .code LEq.yN LEq.yB 3 (some .boolean), .initialized "java/lang/StringLatin1"]
theorem tabEq_of {a : Array Value} {s : State} (h : ∀ w ∈ wordsEq, w.before a s = true) : SEq.tab.before a s = true := by
  have hl : LEq.tab.before a s = true := unparts (wk h (.code LEq.yN LEq.yB 3 (some .boolean))) (wks h (.initialized LEq.yN.cls :: LEq.site))
  have q := consq hl h
  exact unparts (wk q (.code SEq.yN SEq.yB 3 (some .boolean))) (wks q (.initialized SEq.yN.cls :: SEq.site))
theorem movedEq {Z s : State} {a0 args : Array Value} (hZ : Z.Warmed39 s.vm) (hw : ∀ d ∈ wordsEq, d.before a0 Z = true) : ∀ d ∈ wordsEq, d.before args s = true := fun d hd => by
  have t : ∀ d ∈ wordsEq, (d.onTables && d.keepsFace) = true := by decide +kernel
  exact RoadKit.mv hZ (hw d hd) (t d hd)
/-- the road's facts of a String, as the laws ask it -/
theorem txt_of {Z U : State} {a0 : Array Value} {kI : Nat} (wi : (Jvm.Cond.instantiable ST kI).before a0 Z = true) (al : Z.vm.Alike U.vm) {x t : Addr} {kb : ClassId} {cs : List Int32} {cd N2 : Int32} {vs : List Value} (E : RoadKit.Exa Z U.heap x ST) (V : RoadKit.Fld Z U.heap x ST "value" "[B" (.ref t)) (C : RoadKit.Fld Z U.heap x ST "coder" "B" (.int cd)) (K : RoadKit.Arv Z U.heap t kb .byte N2 vs (.int 0)) (hc : CodA cs cd N2 vs) (hb : ∀ c ∈ cs, ¬ c < 0 ∧ ¬ (65535 : Int32) < c) (l2 : cs.length ≤ 4000) :
    ∃ A, Txt x t A cd cs.length (fun j => cs.getD j 0) U := by
  obtain ⟨A, K1, K2, K3, K4, K5, K6⟩ := K
  have hcod := hc.cod (by omega) K3 K5
  obtain ⟨D, fV, fC, hB, F1, F2, g1, g2, -, -⟩ := strObj wi al E V C
  exact ⟨A, ⟨_, hB.2.2.1, D, hB.1, rfl, by cases q : D.vm <;> first | rfl | exact absurd q (hB.2.1.2 _)⟩, Has.of hB F1 g1, Has.of hB F2 g2, ⟨K1.1, State.isArrayOf_alike al K1.2.1, K1.2.2, by rcases hcod with ⟨-, q, -⟩ | ⟨-, q, -⟩ <;> omega⟩, hcod, fun j hj => by
    have e : cs.getD j 0 = cs[j] := by simp [List.getD_eq_getElem?_getD, hj]
    show ¬ cs.getD j 0 < 0 ∧ ¬ 65535 < cs.getD j 0
    rw [e]; exact hb _ (List.getElem_mem _)⟩
theorem same_list (cs ds : List Int32) : SameT cs.length (fun j => cs.getD j 0) ds.length (fun j => ds.getD j 0) ↔ cs = ds := by
  constructor
  · rintro ⟨e, q⟩
    refine List.ext_getElem e fun j h1 h2 => ?_
    have := q j h1
    simpa [List.getD_eq_getElem?_getD, h1, h2] using this
  · rintro rfl
    exact ⟨rfl, fun _ _ => rfl⟩
/-- **equals(Object) OF TWO SUCH STRINGS**: 1 just where the chars are the same -/
theorem eqW {p : Program} {l : Launch} {e : Env} {R : Room} {s : State} {args : Array Value} {below : List Frame} {len W : Nat} {Z : State} {a0 : Array Value} {h : Heap} (hZ : Z.Warmed39 s.vm) (hw : ∀ d ∈ wordsEq, d.before a0 Z = true) {kI : Nat} (wi : (Jvm.Cond.instantiable ST kI).before a0 Z = true)
    {x t : Addr} {kb : ClassId} {cs : List Int32} {cd N2 : Int32} {vs : List Value} (E : RoadKit.Exa Z h x ST) (V : RoadKit.Fld Z h x ST "value" "[B" (.ref t)) (C : RoadKit.Fld Z h x ST "coder" "B" (.int cd)) (K : RoadKit.Arv Z h t kb .byte N2 vs (.int 0)) (hc : CodA cs cd N2 vs) (hb : ∀ c ∈ cs, ¬ c < 0 ∧ ¬ (65535 : Int32) < c) (l2 : cs.length ≤ 4000)
    {y t' : Addr} {kb' : ClassId} {ds : List Int32} {cd' N2' : Int32} {vs' : List Value} (E' : RoadKit.Exa Z h y ST) (V' : RoadKit.Fld Z h y ST "value" "[B" (.ref t')) (C' : RoadKit.Fld Z h y ST "coder" "B" (.int cd')) (K' : RoadKit.Arv Z h t' kb' .byte N2' vs' (.int 0)) (hc' : CodA ds cd' N2' vs') (hb' : ∀ c ∈ ds, ¬ c < 0 ∧ ¬ (65535 : Int32) < c) (l2' : ds.length ≤ 4000)
    {z : Int32} (S : RoadKit.Sta Z h ST "COMPACT_STRINGS" "Z" (.int z)) (hz : ¬ z = 0) (hfr : 2 ≤ R.frames) (hlo : W + 28 ≤ R.locals) :
    Back l R p e below s args (⟨"java/lang/String", "equals", "(Ljava/lang/Object;)Z"⟩ : MethodName) len W (fun P a => a = #[.ref x, .ref y] ∧ P.U.heap = h ∧ P.cells + 0 ≤ R.cells ∧ P.slots + 0 ≤ R.slots)
      (fun P _ v B => ∃ L, (((v = some (.int 1) ∧ cs = ds) ∨ (v = some (.int 0) ∧ ¬ cs = ds)) ∧ L = [] ∧ B.U.heap = h) ∧ B.locs = P.locs ++ L ∧ B.cells = P.cells + 0 ∧ B.slots = P.slots + 0) := by
  intro m meth c P g ig mk a X hg hsize hdg hW hn hp'
  obtain ⟨rfl, rfl, r1, r2⟩ := hp'
  have al : Z.vm.Alike P.U.vm := hZ.alike.trans X.warmed.alike
  obtain ⟨A, hx⟩ := txt_of wi al E V C K hc hb l2
  obtain ⟨A', hy⟩ := txt_of wi al E' V' C' K' hc' hb' l2'
  obtain ⟨v, B, X', ⟨⟨w, hv, hh, hq⟩, hl, hk, hs⟩, st⟩ := SEq.pays x t A cd cs.length (fun j => cs.getD j 0) y t' A' cd' ds.length (fun j => ds.getD j 0) z (tabEq_of (movedEq hZ hw)) hfr hlo m meth c P g ig mk _ X hg hsize hdg hW hn ⟨r1, r2, rfl, hx, hy, sta_is al S, hz⟩
  refine ⟨v, B, X', ⟨[], ⟨?_, rfl, hh⟩, hl, hk, hs⟩, st⟩
  rcases hq with ⟨rfl, q⟩ | ⟨rfl, q⟩
  · exact Or.inl ⟨hv, (same_list cs ds).mp q⟩
  · exact Or.inr ⟨hv, fun e => q ((same_list cs ds).mpr e)⟩
end StrChars.Road
namespace StrChars
open Jvm Sem ClassFile Op Lib Jvm.Stand Jvm.Free.XT Jvm.Free.ALB Jvm.Free.JM Jvm.Free
open Jvm.Lib.Cold (StaticIs)
namespace ChN
def yN : MethodName := ⟨"java/lang/String", "charAt", "(I)C"⟩
abbrev yB : ByteArray := jdk_42_method_56_code
theorem d0 : decode yB 0 = .ok (.aload_n 0, 1) := by decide +kernel
theorem d1 : decode yB 1 = .ok (.invokevirtual 492, 3) := by decide +kernel
theorem d4 : decode yB 4 = .ok (.ifCond (.eq) 12, 3) := by decide +kernel
theorem d7 : decode yB 7 = .ok (.aload_n 0, 1) := by decide +kernel
theorem d8 : decode yB 8 = .ok (.getfield 9, 3) := by decide +kernel
theorem d11 : decode yB 11 = .ok (.iload_n 1, 1) := by decide +kernel
theorem d12 : decode yB 12 = .ok (.invokestatic 495, 3) := by decide +kernel
theorem d15 : decode yB 15 = .ok (.ireturn, 1) := by decide +kernel
def site : List Cond := [.fieldLink "java/lang/String" 9 "java/lang/String" "value" "[B", IsL.tab, LChA.tab] ++ virtW "java/lang/String" 492 "java/lang/String" IsL.yN IsL.yN ++ staticW "java/lang/String" 495 LChA.yN
def tab : Cond := tabOf yN yB 2 (some .char) site
def P (x t : Addr) (V : Cell) (n : Nat) (f : Nat → Int32) (z : Int32) (fm : Value) (i : Nat) (args : Array Value) (s : State) : Prop := args = #[.ref x, .int (Int32.ofNat i)] ∧ Txt x t V 0 n f s ∧ i < n ∧ StaticIs s "java/lang/String" "COMPACT_STRINGS" "Z" (.int z) ∧ ¬ z = 0 ∧ StaticIs s "jdk/internal/util/Preconditions" "SIOOBE_FORMATTER" "Ljava/util/function/BiFunction;" fm ∧ fm.isRef = true
def E (f : Nat → Int32) (i : Nat) (r : Option Value) (s u : State) : Prop := XT.PureE (some (.int (f i))) r s u
/-- charAt(i) of a Latin-1 String of n chars, i < n: f i -/
theorem law (l : Launch) (x t : Addr) (V : Cell) (n : Nat) (f : Nat → Int32) (z : Int32) (fm : Value) (i : Nat) : Law l yN 2 1 3 40 yB 2 (some .char) site (P x t V n f z fm i) (E f i) [] 0 0 := by
  refine Law.of_walk (plainFor_of_name (by decide +kernel)) (by decide +kernel) (by decide +kernel) (by decide) (fun _ _ h => by rw [h.1]; rfl) (fun _ U U' hal hh h => ⟨h.1, h.2.1.mv hal hh, h.2.2.1, h.2.2.2.1.there hal hh, h.2.2.2.2.1, h.2.2.2.2.2.1.there hal hh, h.2.2.2.2.2.2⟩) (fun r U U' V V' h1 hal h2 h => XT.PureE.mv r U U' V V' h1 hal h2 h) ?_
  intro p e s m args below meth c s₁ X0 hexec hbytes hml hret hlk hnm hown hh0 W hP
  obtain ⟨rfl, hx, hi, s1, hz, s3, rf⟩ := hP
  have v31 := hx.2.2.2.1.2.2.2
  have hr := hx.2.2.2.2.2 i hi
  have hx0 := hx.mv X0.warmed.alike hh0
  have c1 : Steps p.tables e below (s₁.setTop (entryFrame m #[.ref x, .int (Int32.ofNat i)] 2)) (s₁.setTop (mkF m 1 #[.val (.ref x), .val (.int (Int32.ofNat i))] [.ref x])) := Steps.trans (entry rfl) (by
    show Steps p.tables e below (s₁.setTop (mkF m 0 #[.val (.ref x), .val (.int (Int32.ofNat i))] [])) _
    refine XS.aloadN X0.here hexec rfl (hb hbytes d0) rfl rfl ?_
    exact Steps.refl _)
  obtain ⟨v2, T2, X2, E2, g2⟩ := X0.callV hexec (IsL.law l x 0 z) hown (wks W (virtW "java/lang/String" 492 "java/lang/String" IsL.yN IsL.yN)) rfl (by decide) (wk W IsL.tab) (W := 0) (Nat.le_of_ble_eq_true rfl) (Nat.le_of_ble_eq_true rfl) (Nat.le_refl _) (Nat.le_refl _) (hx0.1.fc X0.warmed.alike) hx0.1.is (g := (mkF m 1 #[.val (.ref x), .val (.int (Int32.ofNat i))] [.ref x])) rfl (by rw [hml]; rfl) c1 (argsL := []) (rest := []) rfl rfl (by show 2 * 0 + 0 ≤ _; decide) (hb hbytes d1) (⟨rfl, hx0.2.2.1, hx.2.2.2.2.1.cd, s1.there X0.warmed.alike hh0, hz⟩)
  obtain ⟨rfl, q2⟩ := E2
  have hh2 := q2.trans hh0
  have hx2 := hx.mv X2.warmed.alike hh2
  obtain ⟨-, k1, k2⟩ | ⟨k0, -⟩ := hx.2.2.2.2.1
  · have c3 : Steps p.tables e below (s₁.setTop (entryFrame m #[.ref x, .int (Int32.ofNat i)] 2)) (T2.setTop (mkF m 8 #[.val (.ref x), .val (.int (Int32.ofNat i))] [.ref x])) := Steps.trans g2 (by
      refine XS.ifNo X2.here hexec rfl (hb hbytes d4) rfl (i0_eq_f (by decide)) ?_
      refine XS.aloadN X2.here hexec rfl (hb hbytes d7) rfl rfl ?_
      exact Steps.refl _)
    obtain ⟨T4, X4, q4, st4⟩ := X2.hget hexec hown (wk W (.fieldLink "java/lang/String" 9 "java/lang/String" "value" "[B")) hx2.2.1 (g := (mkF m 8 #[.val (.ref x), .val (.int (Int32.ofNat i))] [.ref x])) rfl (rest := []) rfl (hb hbytes d8)
    have hh4 := q4.trans hh2
    have c5 : Steps p.tables e below (s₁.setTop (entryFrame m #[.ref x, .int (Int32.ofNat i)] 2)) (T4.setTop (mkF m 12 #[.val (.ref x), .val (.int (Int32.ofNat i))] [.int (Int32.ofNat i), .ref t])) := (c3.trans (st4 _ (Steps.refl _))).trans (by
      refine XS.iloadN X4.here hexec rfl (hb hbytes d11) rfl ?_
      exact Steps.refl _)
    obtain ⟨v6, T6, X6, E6, g6⟩ := X4.callS hexec (LChA.law l t V i (lo8 (f i)) fm) hown (wks W (staticW "java/lang/String" 495 LChA.yN)) (wk W LChA.tab) (W := 0) (Nat.le_of_ble_eq_true rfl) (Nat.le_of_ble_eq_true rfl) (Nat.le_refl _) (Nat.le_refl _) (g := (mkF m 12 #[.val (.ref x), .val (.int (Int32.ofNat i))] [.int (Int32.ofNat i), .ref t])) rfl (by rw [hml]; rfl) c5 (argsL := [.ref t, .int (Int32.ofNat i)]) (rest := []) rfl rfl (by show 2 * 0 + 0 ≤ _; decide) (hb hbytes d12) (⟨rfl, hx.2.2.2.1.mv X4.warmed.alike hh4, (k2 i hi).1, s3.there X4.warmed.alike hh4, rf⟩)
    obtain ⟨rfl, q6⟩ := E6
    rw [chr8_lo8 hr.1 (k2 i hi).2] at g6
    exact ⟨T6, some (.int (f i)), _, _, _, X6, rfl, rfl, rfl, (fun h => by cases h), ⟨rfl, q6.trans hh4⟩, fun fs hl => Steps.trans g6 (X6.ireturnOut hexec hret (narrow_ch hr.1 hr.2) (Or.inr (Or.inr (Or.inr (Or.inl rfl)))) (hb hbytes d15) hl)⟩
  · exact absurd k0 (by decide)
theorem pays {l : Launch} {R : Room} {p : Program} {e : Env} {below : List Frame} {s : State} {sargs : Array Value} {len W : Nat} (x t : Addr) (V : Cell) (n : Nat) (f : Nat → Int32) (z : Int32) (fm : Value) (i : Nat) (htab : tab.before sargs s = true) (hfr : 4 ≤ R.frames) (hlo : W + 53 ≤ R.locals) :
    Back l R p e below s sargs yN len W (fun A₁ a₁ => A₁.cells + 0 ≤ R.cells ∧ A₁.slots + 0 ≤ R.slots ∧ P x t V n f z fm i a₁ A₁.U) (fun A₁ _ v₁ B₁ => E f i v₁ A₁.U B₁.U ∧ B₁.locs = A₁.locs ++ [] ∧ B₁.cells = A₁.cells + 0 ∧ B₁.slots = A₁.slots + 0) :=
  (law l x t V n f z fm i).pays htab hfr (by omega)
end ChN
end StrChars
namespace StrChars.Road
open Jvm Sem ClassFile Op Lib Jvm.Stand Jvm.Free Jvm.Free.XT
open Jvm.Lib.Cold (StaticIs)
/-- the words of String.charAt(int), the Latin-1 road alone -/
abbrev wordsChN : List Jvm.Cond := [.code ChN.yN ChN.yB 2 (some .char), .initialized ST, .fieldLink ST 9 ST "value" "[B", .fieldLink ST 38 ST "COMPACT_STRINGS" "Z", .fieldLink ST 15 ST "coder" "B", .code IsL.yN IsL.yB 1 (some .boolean), .methodLink ST 492 IsL.yN, .declares IsL.yN, .selects ST IsL.yN IsL.yN, .instanceMethod IsL.yN,
  .methodLink ST 495 LChA.yN, .static LChA.yN, .code LChA.yN LChA.yB 2 (some .char), .initialized "java/lang/StringLatin1", .methodLink "java/lang/StringLatin1" 9 JO.Str_checkIndex.yN, .static JO.Str_checkIndex.yN, .code JO.Str_checkIndex.yN JO.Str_checkIndex.yB 2 none,
  .fieldLink ST 1053 "jdk/internal/util/Preconditions" "SIOOBE_FORMATTER" "Ljava/util/function/BiFunction;", .methodLink ST 1059 JC.PreCheck.yN, .static JC.PreCheck.yN, .code JC.PreCheck.yN JC.PreCheck.yB 3 (some .int), .initialized "jdk/internal/util/Preconditions"]
theorem tabChN_of {a : Array Value} {s : State} (h : ∀ w ∈ wordsChN, w.before a s = true) : ChN.tab.before a s = true := by
  have hp : JC.PreCheck.tab.before a s = true := unparts (wk h (.code JC.PreCheck.yN JC.PreCheck.yB 3 (some .int))) (wks h (.initialized JC.PreCheck.yN.cls :: JC.PreCheck.site))
  have qk := consq hp h
  have hk : JO.Str_checkIndex.tab.before a s = true := unparts (wk qk (.code JO.Str_checkIndex.yN JO.Str_checkIndex.yB 2 none)) (wks qk (.initialized JO.Str_checkIndex.yN.cls :: JO.Str_checkIndex.site))
  have ql := consq hk h
  have hl : LChA.tab.before a s = true := unparts (wk ql (.code LChA.yN LChA.yB 2 (some .char))) (wks ql (.initialized LChA.yN.cls :: LChA.site))
  have hi : IsL.tab.before a s = true := unparts (wk h (.code IsL.yN IsL.yB 1 (some .boolean))) (wks h (.initialized IsL.yN.cls :: IsL.site))
  have q := consq hi (consq hl h)
  exact unparts (wk q (.code ChN.yN ChN.yB 2 (some .char))) (wks q (.initialized ChN.yN.cls :: ChN.site))
theorem movedChN {Z s : State} {a0 args : Array Value} (hZ : Z.Warmed39 s.vm) (hw : ∀ d ∈ wordsChN, d.before a0 Z = true) : ∀ d ∈ wordsChN, d.before args s = true := fun d hd => by
  have t : ∀ d ∈ wordsChN, (d.onTables && d.keepsFace) = true := by decide +kernel
  exact RoadKit.mv hZ (hw d hd) (t d hd)
/-- **charAt(i) OF A LATIN-1 STRING**, i < n: the char -/
theorem chN {p : Program} {l : Launch} {e : Env} {R : Room} {s : State} {args : Array Value} {below : List Frame} {len W : Nat} {Z : State} {a0 : Array Value} {h : Heap} (hZ : Z.Warmed39 s.vm) (hw : ∀ d ∈ wordsChN, d.before a0 Z = true) {kI : Nat} (wi : (Jvm.Cond.instantiable ST kI).before a0 Z = true)
    {x t : Addr} {kb : ClassId} {cs : List Int32} {N2 z : Int32} {vs : List Value} {fm : Value} {i : Nat} {j : Int32} (E : RoadKit.Exa Z h x ST) (V : RoadKit.Fld Z h x ST "value" "[B" (.ref t)) (C : RoadKit.Fld Z h x ST "coder" "B" (.int 0)) (K : RoadKit.Arv Z h t kb .byte N2 vs (.int 0)) (hc : CodA cs 0 N2 vs) (hb : ∀ c ∈ cs, ¬ c < 0 ∧ ¬ (65535 : Int32) < c)
    (S : RoadKit.Sta Z h ST "COMPACT_STRINGS" "Z" (.int z)) (hz : ¬ z = 0) (F : RoadKit.Sta Z h "jdk/internal/util/Preconditions" "SIOOBE_FORMATTER" "Ljava/util/function/BiFunction;" fm) (rf : fm.isRef = true) (l2 : cs.length ≤ 4000) (hi : i < cs.length) (hj : j = Int32.ofNat i) (hfr : 4 ≤ R.frames) (hlo : W + 53 ≤ R.locals) :
    Back l R p e below s args (⟨"java/lang/String", "charAt", "(I)C"⟩ : MethodName) len W (fun P a => a = #[.ref x, .int j] ∧ P.U.heap = h ∧ P.cells + 0 ≤ R.cells ∧ P.slots + 0 ≤ R.slots)
      (fun P _ v B => ∃ L, (v = some (.int (cs.getD i 0)) ∧ L = [] ∧ B.U.heap = h) ∧ B.locs = P.locs ++ L ∧ B.cells = P.cells + 0 ∧ B.slots = P.slots + 0) := by
  subst hj
  intro m meth c P g ig mk a X hg hsize hdg hW hn hp'
  obtain ⟨rfl, rfl, r1, r2⟩ := hp'
  have al : Z.vm.Alike P.U.vm := hZ.alike.trans X.warmed.alike
  obtain ⟨A, hx⟩ := txt_of wi al E V C K hc hb l2
  obtain ⟨v, B, X', ⟨⟨hv, hh⟩, hl, hk, hs⟩, st⟩ := ChN.pays x t A cs.length (fun j => cs.getD j 0) z fm i (tabChN_of (movedChN hZ hw)) hfr hlo m meth c P g ig mk _ X hg hsize hdg hW hn ⟨r1, r2, rfl, hx, hi, sta_is al S, hz, sta_is al F, rf⟩
  exact ⟨v, B, X', ⟨[], ⟨hv, rfl, hh⟩, hl, hk, hs⟩, st⟩
/-- what backV says of its String, as the contracts of this text ask it: cs's low bytes, coder 0 -/
theorem codOf {cs : List Int32} {n : Nat} (hn : cs.length = n) (hb : ∀ c ∈ cs, ¬ 255 < c) : CodA cs 0 (Int32.ofNat n) ((cs.map lo8).map Value.int) := Or.inl ⟨rfl, by rw [hn], by simp [List.map_map, Function.comp_def], hb⟩
end StrChars.Road
end Jvm.Pilot.@@N@@
namespace Jvm.Pilot.@@N@@
open Jvm Jvm.ClassFile Sem Op Lib Jvm.Free Jvm.Stand Jvm.LawKit Jvm.RoadKit Bundle Jvm.OwnK
/-! Strings whose chars are below 256, own text over the pasted laws -/
def Str (Z : State) (h : Heap) (x : Addr) (cs : List Int32) : Prop :=
  Exa Z h x "java/lang/String" ∧ Fld Z h x "java/lang/String" "coder" "B" (.int 0) ∧ (∃ (b : Addr) (k : ClassId), Fld Z h x "java/lang/String" "value" "[B" (.ref b) ∧ Arv Z h b k .byte (Int32.ofNat cs.length) ((cs.map StrChars.lo8).map Value.int) (.int 0)) ∧ (∀ c ∈ cs, ¬ c < 0 ∧ ¬ (255 : Int32) < c) ∧ cs.length ≤ 4000
section Strs
variable {Z : State} {EL : List (String × Nat)} {nI : Bool} {a0 : Array Value} {l : Launch} {R : Room} {W : List Addr} {h h' : Heap} {Wt : Nat} {x b : Addr} {cs ds : List Int32} {z : Int32}
theorem Str.ext (F : Str Z h x cs) (E : Ext h h') : Str Z h' x cs := by
  obtain ⟨f1, f2, ⟨b, k, f3, f4⟩, f5⟩ := F
  exact ⟨f1.ext E, f2.ext E, ⟨b, k, f3.ext E, f4.ext E⟩, f5⟩
theorem Str.keep1 {a : Addr} {C : String} {n : Nat} (F : Str Z h x cs) (K : Keep h h' [a]) (E : Exa Z h a C) (wi : (Jvm.Cond.instantiable C n).before a0 Z = true) (hC : C ≠ "java/lang/String") : Str Z h' x cs := by
  obtain ⟨f1, f2, ⟨b, k, f3, f4⟩, f5⟩ := F
  have n1 : x ∉ [a] := ninS (f1.ne E (Ne.symm hC)) nin0
  have n2 : b ∉ [a] := ninS (E.neArv f4 wi).symm nin0
  exact ⟨f1.keep K, f2.keep K n1, ⟨b, k, f3.keep K n1, f4.keep K n2⟩, f5⟩
theorem Str.lt (F : Str Z h x cs) : x < h.size := F.1.lt
theorem up255 (hp : ∀ c ∈ cs, ¬ c < 0 ∧ ¬ (255 : Int32) < c) : ∀ c ∈ cs, ¬ c < 0 ∧ ¬ (65535 : Int32) < c := fun c hc => ⟨(hp c hc).1, fun q => (hp c hc).2 (Int32.lt_trans (by decide) q)⟩
theorem cal_len (hln : ∀ d ∈ StrChars.Road.wordsLen, d.before a0 Z = true) (wi : (Jvm.Cond.instantiable "java/lang/String" 4).before a0 Z = true) (F : Str Z h x cs) (O2 : Sta Z Z.heap "java/lang/String" "COMPACT_STRINGS" "Z" (.int z)) (P5 : ¬ z = 0) (hfr : 2 ≤ R.frames) (hlo : Wt + 25 ≤ R.locals) :
    Cal Z EL nI a0 l R ⟨"java/lang/String", "length", "()I"⟩ 3 Wt #[.ref x] h W 0 0 (fun v h' => h' = h ∧ v = some (.int (Int32.ofNat cs.length))) := by
  obtain ⟨f1, f2, ⟨b, k, f3, f4⟩, f5, f6⟩ := F
  exact Cal.of_back (Qz := fun v h' Lo => v = some (.int (Int32.ofNat cs.length)) ∧ Lo = [] ∧ h' = h) (fun p e bl s as hZ hO => StrChars.Road.lenW (W := Wt) hZ hln wi f1 f3 f2 f4 (StrChars.Road.codOf rfl fun c hc => (f5 c hc).2) (up255 f5) (O2.ext hO) P5 f6 hfr hlo)
    (fun v h' Lo q => ⟨⟨q.2.2, q.1⟩, by rw [q.2.1]; exact Fr.nil _, [], by rw [q.2.2]; exact Keep.refl _ _, fun _ q => nomatch q⟩)
theorem cal_chr (hch : ∀ d ∈ StrChars.Road.wordsChN, d.before a0 Z = true) (wi : (Jvm.Cond.instantiable "java/lang/String" 4).before a0 Z = true) (F : Str Z h x cs) (O2 : Sta Z Z.heap "java/lang/String" "COMPACT_STRINGS" "Z" (.int z)) (P5 : ¬ z = 0) {fm : Value} (O4 : Sta Z Z.heap "jdk/internal/util/Preconditions" "SIOOBE_FORMATTER" "Ljava/util/function/BiFunction;" fm) (rf : fm.isRef = true)
    {i : Nat} {j : Int32} (hi : i < cs.length) (hj : j = Int32.ofNat i) (hfr : 4 ≤ R.frames) (hlo : Wt + 53 ≤ R.locals) :
    Cal Z EL nI a0 l R ⟨"java/lang/String", "charAt", "(I)C"⟩ 3 Wt #[.ref x, .int j] h W 0 0 (fun v h' => h' = h ∧ v = some (.int (cs.getD i 0))) := by
  obtain ⟨f1, f2, ⟨b, k, f3, f4⟩, f5, f6⟩ := F
  exact Cal.of_back (Qz := fun v h' Lo => v = some (.int (cs.getD i 0)) ∧ Lo = [] ∧ h' = h) (fun p e bl s as hZ hO => StrChars.Road.chN (W := Wt) hZ hch wi f1 f3 f2 f4 (StrChars.Road.codOf rfl fun c hc => (f5 c hc).2) (up255 f5) (O2.ext hO) P5 (O4.ext hO) rf f6 hi hj hfr hlo)
    (fun v h' Lo q => ⟨⟨q.2.2, q.1⟩, by rw [q.2.1]; exact Fr.nil _, [], by rw [q.2.2]; exact Keep.refl _ _, fun _ q => nomatch q⟩)
theorem cal_eq (heq : ∀ d ∈ StrChars.Road.wordsEq, d.before a0 Z = true) (wi : (Jvm.Cond.instantiable "java/lang/String" 4).before a0 Z = true) {y : Addr} (F : Str Z h x cs) (G : Str Z h y ds) (O2 : Sta Z Z.heap "java/lang/String" "COMPACT_STRINGS" "Z" (.int z)) (P5 : ¬ z = 0) (hfr : 2 ≤ R.frames) (hlo : Wt + 28 ≤ R.locals) :
    Cal Z EL nI a0 l R ⟨"java/lang/String", "equals", "(Ljava/lang/Object;)Z"⟩ 3 Wt #[.ref x, .ref y] h W 0 0 (fun v h' => h' = h ∧ v = some (.int (if cs = ds then 1 else 0))) := by
  obtain ⟨f1, f2, ⟨b, k, f3, f4⟩, f5, f6⟩ := F
  obtain ⟨g1, g2, ⟨b', k', g3, g4⟩, g5, g6⟩ := G
  refine Cal.of_back (Qz := fun v h' Lo => ((v = some (.int 1) ∧ cs = ds) ∨ (v = some (.int 0) ∧ ¬ cs = ds)) ∧ Lo = [] ∧ h' = h) (fun p e bl s as hZ hO => StrChars.Road.eqW (W := Wt) hZ heq wi f1 f3 f2 f4 (StrChars.Road.codOf rfl fun c hc => (f5 c hc).2) (up255 f5) f6 g1 g3 g2 g4 (StrChars.Road.codOf rfl fun c hc => (g5 c hc).2) (up255 g5) g6 (O2.ext hO) P5 hfr hlo)
    (fun v h' Lo q => ⟨⟨q.2.2, ?_⟩, by rw [q.2.1]; exact Fr.nil _, [], by rw [q.2.2]; exact Keep.refl _ _, fun _ q => nomatch q⟩)
  rcases q.1 with ⟨rfl, e⟩ | ⟨rfl, e⟩
  · rw [if_pos e]
  · rw [if_neg e]
/-- new String(char[]), at least one char -/
theorem cal_new1 (hws : ∀ d ∈ StrChars.Road.words, d.before a0 Z = true) (wi : (Jvm.Cond.instantiable "java/lang/String" 4).before a0 Z = true) {v0 c0 d : Value} {kC : ClassId} {N : Int32} (hx0 : Z.heap.size ≤ x) (hm : x ∈ W) (E : Exa Z h x "java/lang/String") (V : Fld Z h x "java/lang/String" "value" "[B" v0) (C : Fld Z h x "java/lang/String" "coder" "B" c0)
    (A : Arv Z h b kC .char N (cs.map Value.int) d) (O2 : Sta Z Z.heap "java/lang/String" "COMPACT_STRINGS" "Z" (.int z)) (P5 : ¬ z = 0) (hN : N = Int32.ofNat cs.length) (l0 : 0 < cs.length) (l2 : cs.length ≤ 4000) (hp : ∀ c ∈ cs, ¬ c < 0 ∧ ¬ (255 : Int32) < c) (hfr : 4 ≤ R.frames) (hlo : Wt + 65 ≤ R.locals) :
    Cal Z EL nI a0 l R ⟨"java/lang/String", "<init>", "([C)V"⟩ 3 Wt #[.ref x, .ref b] h W 1 cs.length (fun v h' => v = none ∧ Str Z h' x cs ∧ Keep h h' [x]) := by
  refine Cal.of_back (Qz := StrChars.Road.QV Z x N (cs.map fun c => c.toInt8.toInt32) h Z.heap.size) (fun p e bl s as hZ hO => StrChars.Road.backV (W := Wt) (n0 := Z.heap.size) hZ hws wi hx0 hO.1 E V C A (O2.ext hO) P5 rfl hN l0 l2 hp rfl hfr hlo) (fun v h' Lo q => ?_)
  obtain ⟨q1, q2, q3, q4, q5, t, kb, -, -, -, q6, q7⟩ := q
  refine ⟨⟨q1, ⟨q4, q5, ⟨t, kb, q6, ?_⟩, hp, l2⟩, q3⟩, q2, [x], q3, fun y hy => ?_⟩
  · rw [hN] at q7; exact q7
  · cases List.mem_singleton.mp hy; exact ⟨hx0, sfW hm⟩
end Strs
end Jvm.Pilot.@@N@@
namespace Jvm.Pilot.@@N@@
open Jvm Jvm.ClassFile Sem Op Lib Jvm.Free Jvm.Stand Jvm.LawKit Jvm.RoadKit Bundle Jvm.OwnK Jvm.Pilot.@@N@@.Jvm.D
theorem pd_qual : parseMethodDescriptor "(I)Ljava/lang/String;" = some ⟨[.int], some (.object "java/lang/String")⟩ := by decide +kernel
theorem pd_ch : parseMethodDescriptor "(I)C" = some ⟨[.int], some .char⟩ := by decide +kernel
theorem pd_len : parseMethodDescriptor "()I" = some ⟨[], some .int⟩ := by decide +kernel
theorem pd_same : parseMethodDescriptor "(II)Z" = some ⟨[.int, .int], some .boolean⟩ := by decide +kernel
theorem pd_vini : parseMethodDescriptor "(IIILjava/lang/String;)V" = some ⟨[.int, .int, .int, (.object "java/lang/String")], none⟩ := by decide +kernel
theorem pd_eq : parseMethodDescriptor "(Ljava/lang/Object;)Z" = some ⟨[(.object "java/lang/Object")], some .boolean⟩ := by decide +kernel
theorem pn_law : plainName "org/osgi/framework/VersionEqualsPinLaw" = true := by first | (simp [plainName, overriddenIn]; done) | decide +kernel
theorem pn_ve : plainName "org/osgi/framework/Version" = true := by first | (simp [plainName, overriddenIn]; done) | decide +kernel
def Env1 (Z : State) (a0 : Array Value) (z0 : Int32) (fm : Value) : Prop := (∀ d ∈ tables_1, d.before a0 Z = true) ∧ EW Z a0 consts_1 ∧ Sta Z Z.heap "java/lang/String" "COMPACT_STRINGS" "Z" (.int z0) ∧ ¬ z0 = 0 ∧ Sta Z Z.heap "jdk/internal/util/Preconditions" "SIOOBE_FORMATTER" "Ljava/util/function/BiFunction;" fm ∧ fm.isRef = true
theorem g_backV {Z : State} {a0 : Array Value} (hw : ∀ d ∈ tables_1, d.before a0 Z = true) : ∀ d ∈ StrChars.Road.words, d.before a0 Z = true := fun d hd => hw d ((by decide +kernel : ∀ d ∈ StrChars.Road.words, d ∈ tables_1) d hd)
theorem g_eqW {Z : State} {a0 : Array Value} (hw : ∀ d ∈ tables_1, d.before a0 Z = true) : ∀ d ∈ StrChars.Road.wordsEq, d.before a0 Z = true := fun d hd => hw d ((by decide +kernel : ∀ d ∈ StrChars.Road.wordsEq, d ∈ tables_1) d hd)
theorem g_lenW {Z : State} {a0 : Array Value} (hw : ∀ d ∈ tables_1, d.before a0 Z = true) : ∀ d ∈ StrChars.Road.wordsLen, d.before a0 Z = true := fun d hd => hw d ((by decide +kernel : ∀ d ∈ StrChars.Road.wordsLen, d ∈ tables_1) d hd)
theorem g_chN {Z : State} {a0 : Array Value} (hw : ∀ d ∈ tables_1, d.before a0 Z = true) : ∀ d ∈ StrChars.Road.wordsChN, d.before a0 Z = true := fun d hd => hw d ((by decide +kernel : ∀ d ∈ StrChars.Road.wordsChN, d ∈ tables_1) d hd)
theorem g_wS {Z : State} {a0 : Array Value} (hw : ∀ d ∈ tables_1, d.before a0 Z = true) : ∀ d ∈ Bundle.stringAtoms, d.before a0 Z = true := fun d hd => hw d ((by decide +kernel : ∀ d ∈ Bundle.stringAtoms, d ∈ tables_1) d hd)
theorem pn_str : plainName "java/lang/String" = true := by first | (simp [plainName, overriddenIn]; done) | decide +kernel
theorem pd_s4 : parseMethodDescriptor "([CIILjava/lang/Void;)V" = some ⟨[(.array .char), .int, .int, (.object "java/lang/Void")], none⟩ := by decide +kernel
theorem pd_s1 : parseMethodDescriptor "([C)V" = some ⟨[(.array .char)], none⟩ := by decide +kernel
set_option maxRecDepth 65536 in
set_option maxHeartbeats 40000000 in
theorem c_s4 {l : Launch} {Z : State} {a0 : Array Value} {z0 : Int32} {fm : Value} (G : Env1 Z a0 z0 fm) (x0 b0 : Addr) {kb0 : ClassId} {vs0 : List Value} {d0 : Value} (h : Heap) (hx0 : Z.heap.size ≤ x0) (E : Exa Z h x0 "java/lang/String") {v0 c0 : Value} (V : Fld Z h x0 "java/lang/String" "value" "[B" v0) (C : Fld Z h x0 "java/lang/String" "coder" "B" c0) (A0 : Arv Z h b0 kb0 .char 0 vs0 d0) : Ctr Z consts_1 false l [] (⟨"java/lang/String", "<init>", "([CIILjava/lang/Void;)V"⟩ : MethodName) jdk_42_method_149_code 6 none ({ frames := 1, cells := 4, slots := 8, locals := 12 } : Room) #[(.ref x0), (.ref b0), (.int (0 : Int32)), (.int (0 : Int32)), .null] h [x0] (fun v h' => v = none ∧ Str Z h' x0 [] ∧ Keep h h' [x0]) := by
  obtain ⟨hw, hEL, O2, P5, O4⟩ := id G
  refine Ctr.of_run (a0 := a0) (L0 := #[.val (.ref x0), .val (.ref b0), .val (.int (0 : Int32)), .val (.int (0 : Int32)), .val .null, .unset]) (plainFor_of_name pn_str) hEL (by first | (simp [argsToLocals, Value.category, maxLocals]; done) | rfl) (fun K hK => ?_)
  have wS := g_wS hw
  refine Run.pure hK (seg := [(0, .aload_n 0, 1)]) (by decide +kernel) (pc' := 1) (L' := #[.val (.ref x0), .val (.ref b0), .val (.int (0 : Int32)), .val (.int (0 : Int32)), .val .null, .unset]) (S' := [(.ref x0)]) rfl ?_
  refine Run.initobj hK (index := 1) (hw _ (List.mem_of_getElem? (i := 19) rfl)) (hw _ (List.mem_of_getElem? (i := 20) rfl)) (hw _ (List.mem_of_getElem? (i := 21) rfl)) rfl (by decide +kernel) (by decide) (Wt := 0) (Nat.le_of_ble_eq_true rfl) (by decide) ?_
  refine Run.pure hK (seg := [(4, .iload_n 3, 1)]) (by decide +kernel) (pc' := 5) (L' := #[.val (.ref x0), .val (.ref b0), .val (.int (0 : Int32)), .val (.int (0 : Int32)), .val .null, .unset]) (S' := [(.int (0 : Int32))]) rfl ?_
  refine Run.ifz hK (cd := .ne) (o := 22) (by decide +kernel) (by decide) (pc' := 27) rfl (fun q => by replace q := (h_ne _ _).1 q; exact absurd rfl q) (fun _ => ?_)
  refine Run.pure hK (seg := [(8, .aload_n 0, 1)]) (by decide +kernel) (pc' := 9) (L' := #[.val (.ref x0), .val (.ref b0), .val (.int (0 : Int32)), .val (.int (0 : Int32)), .val .null, .unset]) (S' := [(.ref x0)]) rfl ?_
  refine Run.ldcs hK (index := 7) rfl (text := "") (hw _ (List.mem_of_getElem? (i := 96) rfl)) wS (by decide) (vs := []) (z := (0 : Int32)) (by decide +kernel) (by decide) (by decide +kernel) (by decide +kernel) (n := 0) (by decide) (by decide) (by decide) (by decide) (fun h1 x1 b1 k1 E1 X1 C1 V1 A1 => ?_)
  refine Run.getf hK (index := 9) (host := "") (Or.inl (hw _ (List.mem_of_getElem? (i := 36) rfl))) Via.refl V1 (by decide +kernel) ?_
  refine Run.putf hK (index := 9) (host := "") (Or.inl (hw _ (List.mem_of_getElem? (i := 36) rfl))) Via.refl (V.ext E1) (E.ext E1) (Or.inr ⟨(hw _ (List.mem_of_getElem? (i := 37) rfl)), rfl, rfl⟩) (hw _ (List.mem_of_getElem? (i := 9) rfl)) (ty := (.array .byte)) (by decide) rfl rfl hx0 (sfW (List.mem_singleton.mpr rfl)) (by decide +kernel) (fun h2 W2 => ?_)
  have hsl : Jvm.RoadKit.slotOf Z "java/lang/String" "coder" "B" ≠ Jvm.RoadKit.slotOf Z "java/lang/String" "value" "[B" := slot_ne (Or.inr (hw _ (List.mem_of_getElem? (i := 35) rfl))) (Or.inr (hw _ (List.mem_of_getElem? (i := 37) rfl))) (by decide) (by decide : parseFieldDescriptor "B" = some .byte) (by decide : parseFieldDescriptor "[B" = some (.array .byte))
  have nb1 : x0 ≠ b1 := (E.ext E1).neArv A1 (hw _ (List.mem_of_getElem? (i := 9) rfl))
  have V2 := (V.ext E1).same W2
  have C2 := (C.ext E1).other W2 (Or.inr hsl)
  have X2 := (E.ext E1).wr W2
  have A2 := A1.other W2 nb1.symm
  refine Run.pure hK (seg := [(17, .aload_n 0, 1)]) (by decide +kernel) (pc' := 18) (L' := #[.val (.ref x0), .val (.ref b0), .val (.int (0 : Int32)), .val (.int (0 : Int32)), .val .null, .unset]) (S' := [(.ref x0)]) rfl ?_
  refine Run.ldcs hK (index := 7) rfl (text := "") (hw _ (List.mem_of_getElem? (i := 96) rfl)) wS (by decide) (vs := []) (z := (0 : Int32)) (by decide +kernel) (by decide) (by decide +kernel) (by decide +kernel) (n := 0) (by decide) (by decide) (by decide) (by decide) (fun h3 x3 b3 k3 E3 X3 C3 V3 A3 => ?_)
  refine Run.getf hK (index := 15) (host := "") (Or.inl (hw _ (List.mem_of_getElem? (i := 34) rfl))) Via.refl C3 (by decide +kernel) ?_
  refine Run.putf hK (index := 15) (host := "") (Or.inl (hw _ (List.mem_of_getElem? (i := 34) rfl))) Via.refl (C2.ext E3) (X2.ext E3) (Or.inr ⟨(hw _ (List.mem_of_getElem? (i := 35) rfl)), rfl, rfl⟩) (hw _ (List.mem_of_getElem? (i := 9) rfl)) (ty := .byte) (by decide) rfl rfl hx0 (sfW (List.mem_singleton.mpr rfl)) (by decide +kernel) (fun h4 W4 => ?_)
  have V4 := (V2.ext E3).other W4 (Or.inr hsl.symm)
  have C4 := (C2.ext E3).same W4
  have X4 := (X2.ext E3).wr W4
  have A4 := (A2.ext E3).other W4 nb1.symm
  have K4 : Keep h h4 [x0] := ((((Keep.refl h [x0]).ext E1).wr W2 (Or.inl (List.mem_singleton.mpr rfl))).ext E3).wr W4 (Or.inl (List.mem_singleton.mpr rfl))
  exact Run.retv hK (by decide +kernel) (by decide) (by decide) ⟨rfl, ⟨X4, C4, ⟨b1, k1, V4, A4⟩, (fun _ q => nomatch q), Nat.zero_le _⟩, K4⟩
set_option maxRecDepth 65536 in
set_option maxHeartbeats 40000000 in
theorem c_s1 {l : Launch} {Z : State} {a0 : Array Value} {z0 : Int32} {fm : Value} (G : Env1 Z a0 z0 fm) (x0 b0 : Addr) {kb0 : ClassId} {vs0 : List Value} {d0 : Value} (h : Heap) (hx0 : Z.heap.size ≤ x0) (E : Exa Z h x0 "java/lang/String") {v0 c0 : Value} (V : Fld Z h x0 "java/lang/String" "value" "[B" v0) (C : Fld Z h x0 "java/lang/String" "coder" "B" c0) (A0 : Arv Z h b0 kb0 .char 0 vs0 d0) : Ctr Z consts_1 false l [] (⟨"java/lang/String", "<init>", "([C)V"⟩ : MethodName) jdk_42_method_3_code 2 none ({ frames := 2, cells := 4, slots := 8, locals := 40 } : Room) #[(.ref x0), (.ref b0)] h [x0] (fun v h' => v = none ∧ Str Z h' x0 [] ∧ Keep h h' [x0]) := by
  obtain ⟨hw, hEL, O2, P5, O4⟩ := id G
  refine Ctr.of_run (a0 := a0) (L0 := #[.val (.ref x0), .val (.ref b0)]) (plainFor_of_name pn_str) hEL (by first | (simp [argsToLocals, Value.category, maxLocals]; done) | rfl) (fun K hK => ?_)
  have wS := g_wS hw
  refine Run.pure hK (seg := [(0, .aload_n 0, 1), (1, .aload_n 1, 1), (2, .iconst 0, 1), (3, .aload_n 1, 1)]) (by decide +kernel) (pc' := 4) (L' := #[.val (.ref x0), .val (.ref b0)]) (S' := [(.ref b0), (.int (0 : Int32)), (.ref b0), (.ref x0)]) rfl ?_
  refine Run.alen hK A0 (by decide +kernel) ?_
  refine Run.pure hK (seg := [(5, .aconst_null, 1)]) (by decide +kernel) (pc' := 6) (L' := #[.val (.ref x0), .val (.ref b0)]) (S' := [.null, (.int (0 : Int32)), (.int (0 : Int32)), (.ref b0), (.ref x0)]) rfl ?_
  refine Run.special hK (index := 27) (y := (⟨"java/lang/String", "<init>", "([CIILjava/lang/Void;)V"⟩ : MethodName)) (Wt := 0) (kc := 4) (ks := 8) rfl (hw _ (List.mem_of_getElem? (i := 15) rfl)) (hw _ (List.mem_of_getElem? (i := 16) rfl)) (hw _ (List.mem_of_getElem? (i := 18) rfl)) (by decide) (a := x0) (fun _ q => q) (Ctr.cal (c_s4 G x0 b0 h hx0 E V C A0) (hw _ (List.mem_of_getElem? (i := 18) rfl)) (hw _ (List.mem_of_getElem? (i := 10) rfl)) (by decide) (by decide)) rfl (argsL := [(.ref b0), (.int (0 : Int32)), (.int (0 : Int32)), .null]) (rest := []) (lenOf pd_s4 rfl) rfl (Nat.le_of_ble_eq_true rfl) (by decide +kernel) (by decide) (by decide) (fun v1 h1 q1 n1 => ?_)
  obtain ⟨rfl, q1a, q1b⟩ := q1
  exact Run.retv hK (by decide +kernel) (by decide) (by decide) ⟨rfl, q1a, q1b⟩
theorem cal_newS {l : Launch} {Z : State} {a0 : Array Value} {z0 : Int32} {fm : Value} (G : Env1 Z a0 z0 fm) {R : Room} {W : List Addr} {h : Heap} {Wt : Nat} {x0 b0 : Addr} {cs : List Int32} {v0 c0 d0 : Value} {kC : ClassId} {N : Int32} (hx0 : Z.heap.size ≤ x0) (hm : x0 ∈ W) (E : Exa Z h x0 "java/lang/String") (V : Fld Z h x0 "java/lang/String" "value" "[B" v0) (C : Fld Z h x0 "java/lang/String" "coder" "B" c0)
    (A : Arv Z h b0 kC .char N (cs.map Value.int) d0) (hN : N = Int32.ofNat cs.length) (l2 : cs.length ≤ 4000) (hp : ∀ c ∈ cs, ¬ c < 0 ∧ ¬ (255 : Int32) < c) (hfr : 4 ≤ R.frames) (hlo : Wt + 65 ≤ R.locals) {kc ks : Nat} (h1 : 4 ≤ kc) (h2 : 8 ≤ ks) (h3 : cs.length ≤ ks) :
    Cal Z consts_1 false a0 l R ⟨"java/lang/String", "<init>", "([C)V"⟩ 3 Wt #[.ref x0, .ref b0] h W kc ks (fun v h' => v = none ∧ Str Z h' x0 cs ∧ Keep h h' [x0]) := by
  obtain ⟨hw, hEL, O2, P5, O4⟩ := id G
  cases cs with
  | nil =>
    subst hN
    exact Cal.conseq (Cal.more (Ctr.cal (c_s1 G x0 b0 h hx0 E V C A) (hw _ (List.mem_of_getElem? (i := 14) rfl)) (hw _ (List.mem_of_getElem? (i := 10) rfl)) (by show 3 ≤ _; omega) (by show Wt + (2 + 11) + 40 ≤ _; omega)) h1 h2) (fun x hx => by cases List.mem_singleton.mp hx; exact hm) (fun _ _ q => q)
  | cons c1 cs =>
    exact Cal.more (cal_new1 (g_backV hw) (hw _ (List.mem_of_getElem? (i := 9) rfl)) hx0 hm E V C A O2 P5 hN (Nat.succ_pos _) l2 hp hfr hlo) (by omega) h3
theorem pn_int : plainName "java/lang/Integer" = true := by first | (simp [plainName, overriddenIn]; done) | decide +kernel
theorem pn_num : plainName "java/lang/Number" = true := by first | (simp [plainName, overriddenIn]; done) | decide +kernel
theorem pd_ival : parseMethodDescriptor "(I)Ljava/lang/Integer;" = some ⟨[.int], some (.object "java/lang/Integer")⟩ := by decide +kernel
theorem pd_iini : parseMethodDescriptor "(I)V" = some ⟨[.int], none⟩ := by decide +kernel
theorem pd_v : parseMethodDescriptor "()V" = some ⟨[], none⟩ := by decide +kernel
def ICa (Z : State) : Prop := Sta Z Z.heap "java/lang/Integer$IntegerCache" "high" "I" (.int 127) ∧ ∃ (ca : Addr) (cc : Cell) (val : Int32 → Value), Sta Z Z.heap "java/lang/Integer$IntegerCache" "cache" "[Ljava/lang/Integer;" (.ref ca) ∧ Bxs Z ca cc "java/lang/Integer" "I" 256 val
set_option maxRecDepth 65536 in
set_option maxHeartbeats 40000000 in
theorem c_num {l : Launch} {Z : State} {a0 : Array Value} {z0 : Int32} {fm : Value} (G : Env1 Z a0 z0 fm) (x0 : Addr) (h : Heap) : Ctr Z consts_1 false l [] (⟨"java/lang/Number", "<init>", "()V"⟩ : MethodName) jdk_18_method_1_code 1 none ({ frames := 1, cells := 0, slots := 0, locals := 12 } : Room) #[(.ref x0)] h [] (fun v h' => h' = h ∧ v = none) := by
  obtain ⟨hw, hEL, O2, P5, O4⟩ := id G
  refine Ctr.of_run (a0 := a0) (L0 := #[.val (.ref x0)]) (plainFor_of_name pn_num) hEL (by first | (simp [argsToLocals, Value.category, maxLocals]; done) | rfl) (fun K hK => ?_)
  refine Run.pure hK (seg := [(0, .aload_n 0, 1)]) (by decide +kernel) (pc' := 1) (L' := #[.val (.ref x0)]) (S' := [(.ref x0)]) rfl ?_
  refine Run.initobj hK (index := 1) (hw _ (List.mem_of_getElem? (i := 117) rfl)) (hw _ (List.mem_of_getElem? (i := 20) rfl)) (hw _ (List.mem_of_getElem? (i := 21) rfl)) rfl (by decide +kernel) (by decide) (Wt := 0) (Nat.le_of_ble_eq_true rfl) (by decide) ?_
  exact Run.retv hK (by decide +kernel) (by decide) (by decide) ⟨rfl, rfl⟩
set_option maxRecDepth 65536 in
set_option maxHeartbeats 40000000 in
theorem c_iini {l : Launch} {Z : State} {a0 : Array Value} {z0 : Int32} {fm : Value} (G : Env1 Z a0 z0 fm) (x0 : Addr) (n0 : Int32) (h : Heap) (hx0 : Z.heap.size ≤ x0) (E : Exa Z h x0 "java/lang/Integer") (V : Fld Z h x0 "java/lang/Integer" "value" "I" (.int 0)) : Ctr Z consts_1 false l [] (⟨"java/lang/Integer", "<init>", "(I)V"⟩ : MethodName) jdk_33_method_23_code 2 none ({ frames := 2, cells := 0, slots := 0, locals := 24 } : Room) #[(.ref x0), (.int n0)] h [] (fun v h' => v = none ∧ Keep h h' [x0] ∧ Exa Z h' x0 "java/lang/Integer") := by
  obtain ⟨hw, hEL, O2, P5, O4⟩ := id G
  refine Ctr.of_run (a0 := a0) (L0 := #[.val (.ref x0), .val (.int n0)]) (plainFor_of_name pn_int) hEL (by first | (simp [argsToLocals, Value.category, maxLocals]; done) | rfl) (fun K hK => ?_)
  refine Run.pure hK (seg := [(0, .aload_n 0, 1)]) (by decide +kernel) (pc' := 1) (L' := #[.val (.ref x0), .val (.int n0)]) (S' := [(.ref x0)]) rfl ?_
  refine Run.special hK (index := 202) (y := (⟨"java/lang/Number", "<init>", "()V"⟩ : MethodName)) (Wt := 0) (kc := 0) (ks := 0) rfl (hw _ (List.mem_of_getElem? (i := 111) rfl)) (hw _ (List.mem_of_getElem? (i := 112) rfl)) (hw _ (List.mem_of_getElem? (i := 116) rfl)) (by decide) (a := x0) (W' := []) (fun _ q => nomatch q) (Ctr.cal (c_num G x0 h) (hw _ (List.mem_of_getElem? (i := 116) rfl)) (hw _ (List.mem_of_getElem? (i := 115) rfl)) (by decide) (by decide)) rfl (argsL := []) (rest := []) (lenOf pd_v rfl) rfl (Nat.le_of_ble_eq_true rfl) (by decide +kernel) (by decide) (by decide) (fun v1 h1 q1 n1 => ?_)
  obtain ⟨rfl, rfl⟩ := q1
  refine Run.pure hK (seg := [(4, .aload_n 0, 1), (5, .iload_n 1, 1)]) (by decide +kernel) (pc' := 6) (L' := #[.val (.ref x0), .val (.int n0)]) (S' := [(.int n0), (.ref x0)]) rfl ?_
  refine Run.putf hK (index := 205) (host := "") (Or.inl (hw _ (List.mem_of_getElem? (i := 118) rfl))) Via.refl V E (Or.inr ⟨(hw _ (List.mem_of_getElem? (i := 119) rfl)), rfl, rfl⟩) (hw _ (List.mem_of_getElem? (i := 106) rfl)) (ty := .int) (by decide) rfl rfl hx0 (sfE E (by decide) (by decide)) (by decide +kernel) (fun h2 W2 => ?_)
  exact Run.retv hK (by decide +kernel) (by decide) (by decide) ⟨rfl, (Keep.refl _ [x0]).wr W2 (Or.inl (List.mem_singleton.mpr rfl)), E.wr W2⟩
set_option maxRecDepth 65536 in
set_option maxHeartbeats 40000000 in
theorem c_ival {l : Launch} {Z : State} {a0 : Array Value} {z0 : Int32} {fm : Value} (G : Env1 Z a0 z0 fm) (n0 : Int32) (h : Heap) (IA : ICa Z) : Ctr Z consts_1 false l [] (⟨"java/lang/Integer", "valueOf", "(I)Ljava/lang/Integer;"⟩ : MethodName) jdk_33_method_22_code 1 (some (.object "java/lang/Integer")) ({ frames := 3, cells := 1, slots := 1, locals := 40 } : Room) #[(.int n0)] h [] (fun v h' => ∃ a, v = some (.ref a) ∧ Exa Z h' a "java/lang/Integer" ∧ Ext h h') := by
  obtain ⟨hw, hEL, O2, P5, O4⟩ := id G
  refine Ctr.of_run (a0 := a0) (L0 := #[.val (.int n0)]) (plainFor_of_name pn_int) hEL (by first | (simp [argsToLocals, Value.category, maxLocals]; done) | rfl) (fun K hK => ?_)
  obtain ⟨IH, ca, cc, val, IS, IB⟩ := IA
  refine Run.old (fun hO => ?_)
  refine Run.pure hK (seg := [(0, .iload_n 0, 1), (1, .bipush (-128), 2)]) (by decide +kernel) (pc' := 3) (L' := #[.val (.int n0)]) (S' := [(.int (-128 : Int32)), (.int n0)]) rfl ?_
  refine Run.icmp hK (cd := .lt) (o := 20) (by decide +kernel) (by decide) (pc' := 23) rfl (fun q1 => ?_) (fun q1 => ?_)
  · replace q1 := (h_lt _ _).1 q1
    refine Run.new hK (index := 1) (C := "java/lang/Integer") (n := 1) (hw _ (List.mem_of_getElem? (i := 105) rfl)) (hw _ (List.mem_of_getElem? (i := 106) rfl)) (hw _ (List.mem_of_getElem? (i := 101) rfl)) (by decide +kernel) (by decide) (by decide) (fun hi Ei Xi Di => ?_)
    obtain ⟨ai, zi⟩ : ∃ z, z = h.size := ⟨_, rfl⟩
    rw [← zi]
    rw [← zi] at Xi Di
    refine Run.pure hK (seg := [(26, .dup, 1), (27, .iload_n 0, 1)]) (by decide +kernel) (pc' := 28) (L' := #[.val (.int n0)]) (S' := [(.int n0), (.ref ai), (.ref ai)]) rfl ?_
    refine Run.special hK (index := 199) (y := (⟨"java/lang/Integer", "<init>", "(I)V"⟩ : MethodName)) (Wt := 1) (kc := 0) (ks := 0) rfl (hw _ (List.mem_of_getElem? (i := 107) rfl)) (hw _ (List.mem_of_getElem? (i := 108) rfl)) (hw _ (List.mem_of_getElem? (i := 110) rfl)) (by decide) (a := ai) (W' := []) (fun _ q => nomatch q) (Ctr.cal (c_iini G ai n0 hi (by rw [zi]; exact hO.1) Xi (Di (Or.inr (hw _ (List.mem_of_getElem? (i := 119) rfl))) (ty := .int) (by decide))) (hw _ (List.mem_of_getElem? (i := 110) rfl)) (hw _ (List.mem_of_getElem? (i := 101) rfl)) (by decide) (by decide)) rfl (argsL := [(.int n0)]) (rest := [(.ref ai)]) (lenOf pd_iini rfl) rfl (Nat.le_of_ble_eq_true rfl) (by decide +kernel) (by decide) (by decide) (fun vj hj qj nj => ?_)
    obtain ⟨rfl, Kj, Ej⟩ := qj
    exact Run.retw hK (i := .areturn) rfl (Or.inr (Or.inr (Or.inr (Or.inr ⟨rfl, rfl, rfl⟩)))) (by decide +kernel) (by decide) (by decide) ⟨ai, rfl, Ej, ext_keep Ei Kj (fun x hx => by cases List.mem_singleton.mp hx; rw [zi]; exact Nat.le_refl _)⟩
  · replace q1 := (h_lt _ _).2 q1
    refine Run.pure hK (seg := [(6, .iload_n 0, 1)]) (by decide +kernel) (pc' := 7) (L' := #[.val (.int n0)]) (S' := [(.int n0)]) rfl ?_
    refine Run.gets hK (index := 191) (hw _ (List.mem_of_getElem? (i := 103) rfl)) Via.refl (IH.ext hO) (by decide +kernel) ?_
    refine Run.icmp hK (cd := .gt) (o := 13) (by decide +kernel) (by decide) (pc' := 23) rfl (fun q2 => ?_) (fun q2 => ?_)
    · replace q2 := (h_gt _ _).1 q2
      refine Run.new hK (index := 1) (C := "java/lang/Integer") (n := 1) (hw _ (List.mem_of_getElem? (i := 105) rfl)) (hw _ (List.mem_of_getElem? (i := 106) rfl)) (hw _ (List.mem_of_getElem? (i := 101) rfl)) (by decide +kernel) (by decide) (by decide) (fun hi Ei Xi Di => ?_)
      obtain ⟨ai, zi⟩ : ∃ z, z = h.size := ⟨_, rfl⟩
      rw [← zi]
      rw [← zi] at Xi Di
      refine Run.pure hK (seg := [(26, .dup, 1), (27, .iload_n 0, 1)]) (by decide +kernel) (pc' := 28) (L' := #[.val (.int n0)]) (S' := [(.int n0), (.ref ai), (.ref ai)]) rfl ?_
      refine Run.special hK (index := 199) (y := (⟨"java/lang/Integer", "<init>", "(I)V"⟩ : MethodName)) (Wt := 1) (kc := 0) (ks := 0) rfl (hw _ (List.mem_of_getElem? (i := 107) rfl)) (hw _ (List.mem_of_getElem? (i := 108) rfl)) (hw _ (List.mem_of_getElem? (i := 110) rfl)) (by decide) (a := ai) (W' := []) (fun _ q => nomatch q) (Ctr.cal (c_iini G ai n0 hi (by rw [zi]; exact hO.1) Xi (Di (Or.inr (hw _ (List.mem_of_getElem? (i := 119) rfl))) (ty := .int) (by decide))) (hw _ (List.mem_of_getElem? (i := 110) rfl)) (hw _ (List.mem_of_getElem? (i := 101) rfl)) (by decide) (by decide)) rfl (argsL := [(.int n0)]) (rest := [(.ref ai)]) (lenOf pd_iini rfl) rfl (Nat.le_of_ble_eq_true rfl) (by decide +kernel) (by decide) (by decide) (fun vj hj qj nj => ?_)
      obtain ⟨rfl, Kj, Ej⟩ := qj
      exact Run.retw hK (i := .areturn) rfl (Or.inr (Or.inr (Or.inr (Or.inr ⟨rfl, rfl, rfl⟩)))) (by decide +kernel) (by decide) (by decide) ⟨ai, rfl, Ej, ext_keep Ei Kj (fun x hx => by cases List.mem_singleton.mp hx; rw [zi]; exact Nat.le_refl _)⟩
    · replace q2 := (h_gt _ _).2 q2
      refine Run.gets hK (index := 195) (hw _ (List.mem_of_getElem? (i := 135) rfl)) Via.refl (IS.ext hO) (by decide +kernel) ?_
      refine Run.pure hK (seg := [(16, .iload_n 0, 1), (17, .sipush 128, 3), (20, .iadd, 1)]) (by decide +kernel) (pc' := 21) (L' := #[.val (.int n0)]) (S' := [(.int (n0 + (128 : Int32))), (.ref ca)]) rfl ?_
      obtain ⟨B1, B2, B3, B4⟩ := IB
      have pk := Jvm.Free.IntBox.place_ok n0 (fun z => q1 z) (fun z => q2 z)
      have hin : ¬ ((n0 + 128) < 0 ∨ cc.slots.size ≤ (n0 + 128).toNatClampNeg) := by rw [B2]; exact pk.1
      obtain ⟨bx, e1, e2, -⟩ := B4 (n0 + 128) hin
      refine Run.aald hK (j := n0 + 128) (B1.ext hO) rfl hin e1 (by decide +kernel) ?_
      exact Run.retw hK (i := .areturn) rfl (Or.inr (Or.inr (Or.inr (Or.inr ⟨rfl, rfl, rfl⟩)))) (by decide +kernel) (by decide) (by decide) ⟨bx, rfl, e2.ext hO, Ext.rf⟩
def okq (r : Int32) : Prop := (97 ≤ r.toInt ∧ r.toInt ≤ 122) ∨ (65 ≤ r.toInt ∧ r.toInt ≤ 90) ∨ (48 ≤ r.toInt ∧ r.toInt ≤ 57) ∨ r.toInt = 95 ∨ r.toInt = 45
theorem okq_in {r : Int32} (h : okq r) : ¬ r < 0 ∧ ¬ (255 : Int32) < r := by
  have e : (255 : Int32).toInt = 255 := rfl
  rw [Int32.lt_iff_toInt_lt, Int32.lt_iff_toInt_lt, tI0, e]; unfold okq at h; omega
def chG (i : Int32) : Int32 := if i < 26 then 97 + i else if i < 52 then 65 + (i - 26) else if i < 62 then 48 + (i - 52) else if i = 62 then 95 else 45
def chI (n : Int) : Int := if n < 26 then 97 + n else if n < 52 then 39 + n else if n < 62 then n - 4 else if n = 62 then 95 else 45
theorem chG_val (i : Int32) (h : 0 ≤ i.toInt ∧ i.toInt < 64) : (chG i).toInt = chI i.toInt := by
  have e1 : (26 : Int32).toInt = 26 := rfl; have e2 : (52 : Int32).toInt = 52 := rfl; have e3 : (62 : Int32).toInt = 62 := rfl
  have e4 : (97 : Int32).toInt = 97 := rfl; have e5 : (65 : Int32).toInt = 65 := rfl; have e6 : (48 : Int32).toInt = 48 := rfl
  unfold chG chI
  simp only [Int32.lt_iff_toInt_lt, e1, e2, e3, ← Int32.toInt_inj]
  split
  · have a := c_iadd 97 i; have r := rng32 (97 + i); omega
  · split
    · have a := c_isub i 26; have r := rng32 (i - 26); have b := c_iadd 65 (i - 26); have r2 := rng32 (65 + (i - 26)); omega
    · split
      · have a := c_isub i 52; have r := rng32 (i - 52); have b := c_iadd 48 (i - 52); have r2 := rng32 (48 + (i - 52)); omega
      · split
        · rfl
        · rfl
theorem chG_ok (i : Int32) (h : 0 ≤ i.toInt ∧ i.toInt < 64) : okq (chG i) := by
  have q := chG_val i h
  unfold okq; rw [q]; unfold chI
  split
  · omega
  · split
    · omega
    · split
      · omega
      · split <;> omega
theorem chG_inj {i j : Int32} (h : 0 ≤ i.toInt ∧ i.toInt < 64) (g : 0 ≤ j.toInt ∧ j.toInt < 64) : chG i = chG j ↔ i = j := by
  constructor
  · intro e
    have q : chI i.toInt = chI j.toInt := by rw [← chG_val i h, ← chG_val j g, e]
    apply Int32.toInt_inj.mp
    unfold chI at q
    split at q <;> split at q <;> (try split at q) <;> (try split at q) <;> (try split at q) <;> (try split at q) <;> (try split at q) <;> (try split at q) <;> omega
  · rintro rfl; rfl
theorem m63 (x : Int32) : 0 ≤ (x &&& 63).toInt ∧ (x &&& 63).toInt < 64 := by
  have q := c_and x 63 (by decide)
  have e : (63 : Int32).toInt = 63 := rfl
  omega
def D0 (x : Int32) : Int32 := XT.ushr x 2 &&& 63
def D1 (x : Int32) : Int32 := XT.ushr x 8 &&& 63
def D2 (x : Int32) : Int32 := XT.ushr x 14 &&& 63
def quF (x : Int32) : List Int32 := if x &&& 3 = 0 then [] else if x &&& 3 = 1 then [chG (D0 x)] else if x &&& 3 = 2 then [chG (D0 x), chG (D1 x)] else [chG (D0 x), chG (D1 x), chG (D2 x)]
theorem quF_ok (x : Int32) : ∀ c ∈ quF x, okq c := by
  have a := chG_ok _ (m63 (XT.ushr x 2)); have b := chG_ok _ (m63 (XT.ushr x 8)); have d := chG_ok _ (m63 (XT.ushr x 14))
  intro c hc
  rcases and3 x with q | q | q | q <;> simp [quF, q, D0, D1, D2] at hc
  · subst hc; exact a
  · rcases hc with rfl | rfl
    · exact a
    · exact b
  · rcases hc with rfl | rfl | rfl
    · exact a
    · exact b
    · exact d
theorem quF_eq (x y : Int32) : quF x = quF y ↔ (x &&& 3 = y &&& 3 ∧ (¬ x &&& 3 < 1 → D0 x = D0 y) ∧ (¬ x &&& 3 < 2 → D1 x = D1 y) ∧ (¬ x &&& 3 < 3 → D2 x = D2 y)) := by
  have i0 : chG (D0 x) = chG (D0 y) ↔ D0 x = D0 y := chG_inj (m63 _) (m63 _)
  have i1 : chG (D1 x) = chG (D1 y) ↔ D1 x = D1 y := chG_inj (m63 _) (m63 _)
  have i2 : chG (D2 x) = chG (D2 y) ↔ D2 x = D2 y := chG_inj (m63 _) (m63 _)
  rcases and3 x with q | q | q | q <;> rcases and3 y with r | r | r | r <;> simp [quF, q, r, i0, i1, i2] <;> decide
def Ver (Z : State) (h : Heap) (a : Addr) (x y z : Int32) (s : Addr) : Prop := Exa Z h a "org/osgi/framework/Version" ∧ Fld Z h a "org/osgi/framework/Version" "major" "I" (.int x) ∧ Fld Z h a "org/osgi/framework/Version" "minor" "I" (.int y) ∧ Fld Z h a "org/osgi/framework/Version" "micro" "I" (.int z) ∧ Fld Z h a "org/osgi/framework/Version" "qualifier" "Ljava/lang/String;" (.ref s)
theorem Ver.ext {Z : State} {h h' : Heap} {a s : Addr} {x y z : Int32} (F : Ver Z h a x y z s) (E : Ext h h') : Ver Z h' a x y z s := ⟨F.1.ext E, F.2.1.ext E, F.2.2.1.ext E, F.2.2.2.1.ext E, F.2.2.2.2.ext E⟩
theorem nn31 (x : Int32) : ¬ (x &&& 2147483647) < 0 := by
  have q := c_and x 2147483647 (by decide)
  rw [Int32.lt_iff_toInt_lt, tI0]; omega
set_option maxRecDepth 65536 in
set_option maxHeartbeats 40000000 in
theorem c_ch {l : Launch} {Z : State} {a0 : Array Value} {z0 : Int32} {fm : Value} (G : Env1 Z a0 z0 fm) (x0 : Int32) (h : Heap) : Ctr Z consts_1 false l [] (⟨"org/osgi/framework/VersionEqualsPinLaw", "ch", "(I)C"⟩ : MethodName) method_2_code 2 (some .char) ({ frames := 0, cells := 0, slots := 0, locals := 0 } : Room) #[(.int x0)] h [] (fun v h' => h' = h ∧ v = some (.int (chG (x0 &&& 63)))) := by
  obtain ⟨hw, hEL, O2, P5, O4⟩ := id G
  refine Ctr.of_run (a0 := a0) (L0 := #[.val (.int x0), .unset]) (plainFor_of_name pn_law) hEL (by first | (simp [argsToLocals, Value.category, maxLocals]; done) | rfl) (fun K hK => ?_)
  refine Run.pure hK (seg := [(0, .iload_n 0, 1), (1, .bipush 63, 2), (3, .iand, 1), (4, .istore_n 1, 1)]) (by decide +kernel) (pc' := 5) (L' := #[.val (.int x0), .val (.int (x0 &&& (63 : Int32)))]) (S' := []) rfl ?_
  have hk := m63 x0
  have ok := okq_in (chG_ok _ hk)
  obtain ⟨k, e_k⟩ : ∃ z : Int32, z = (x0 &&& (63 : Int32)) := ⟨_, rfl⟩
  rw [← e_k] at hk ok ⊢
  clear e_k
  refine Run.pure hK (seg := [(5, .iload_n 1, 1), (6, .bipush 26, 2)]) (by decide +kernel) (pc' := 8) (L' := #[.val (.int x0), .val (.int k)]) (S' := [(.int (26 : Int32)), (.int k)]) rfl ?_
  refine Run.icmp hK (cd := .ge) (o := 9) (by decide +kernel) (by decide) (pc' := 17) rfl (fun q1 => ?_) (fun q1 => ?_)
  · replace q1 := (h_ge _ _).1 q1
    refine Run.pure hK (seg := [(17, .iload_n 1, 1), (18, .bipush 52, 2)]) (by decide +kernel) (pc' := 20) (L' := #[.val (.int x0), .val (.int k)]) (S' := [(.int (52 : Int32)), (.int k)]) rfl ?_
    refine Run.icmp hK (cd := .ge) (o := 12) (by decide +kernel) (by decide) (pc' := 32) rfl (fun q2 => ?_) (fun q2 => ?_)
    · replace q2 := (h_ge _ _).1 q2
      refine Run.pure hK (seg := [(32, .iload_n 1, 1), (33, .bipush 62, 2)]) (by decide +kernel) (pc' := 35) (L' := #[.val (.int x0), .val (.int k)]) (S' := [(.int (62 : Int32)), (.int k)]) rfl ?_
      refine Run.icmp hK (cd := .ge) (o := 12) (by decide +kernel) (by decide) (pc' := 47) rfl (fun q3 => ?_) (fun q3 => ?_)
      · replace q3 := (h_ge _ _).1 q3
        refine Run.pure hK (seg := [(47, .iload_n 1, 1), (48, .bipush 62, 2)]) (by decide +kernel) (pc' := 50) (L' := #[.val (.int x0), .val (.int k)]) (S' := [(.int (62 : Int32)), (.int k)]) rfl ?_
        refine Run.icmp hK (cd := .ne) (o := 6) (by decide +kernel) (by decide) (pc' := 56) rfl (fun q4 => ?_) (fun q4 => ?_)
        · replace q4 := (h_ne _ _).1 q4
          refine Run.pure hK (seg := [(56, .bipush 45, 2)]) (by decide +kernel) (pc' := 58) (L' := #[.val (.int x0), .val (.int k)]) (S' := [(.int (45 : Int32))]) rfl ?_
          have e : (45 : Int32) = chG k := by unfold chG; rw [if_neg q1, if_neg q2, if_neg q3, if_neg q4]
          rw [e]
          exact Run.retw hK (i := .ireturn) (nrc ok) (Or.inl ⟨rfl, Or.inr (Or.inr (Or.inr (Or.inl rfl))), _, rfl⟩) (by decide +kernel) (by decide) (by decide) ⟨rfl, rfl⟩
        · replace q4 := (h_ne _ _).2 q4
          refine Run.pure hK (seg := [(53, .bipush 95, 2)]) (by decide +kernel) (pc' := 55) (L' := #[.val (.int x0), .val (.int k)]) (S' := [(.int (95 : Int32))]) rfl ?_
          have e : (95 : Int32) = chG k := by unfold chG; rw [if_neg q1, if_neg q2, if_neg q3, if_pos q4]
          rw [e]
          exact Run.retw hK (i := .ireturn) (nrc ok) (Or.inl ⟨rfl, Or.inr (Or.inr (Or.inr (Or.inl rfl))), _, rfl⟩) (by decide +kernel) (by decide) (by decide) ⟨rfl, rfl⟩
      · replace q3 := (h_ge _ _).2 q3
        refine Run.pure hK (seg := [(38, .bipush 48, 2), (40, .iload_n 1, 1), (41, .bipush 52, 2), (43, .isub, 1), (44, .iadd, 1), (45, .i2c, 1)]) (by decide +kernel) (pc' := 46) (L' := #[.val (.int x0), .val (.int k)]) (S' := [(.int ((48 : Int32) + (k - (52 : Int32))).toUInt32.toUInt16.toUInt32.toInt32)]) rfl ?_
        have e : ((48 : Int32) + (k - (52 : Int32))) = chG k := by unfold chG; rw [if_neg q1, if_neg q2, if_pos q3]
        rw [e, c16 ok.1 (lt255 ok.2)]
        exact Run.retw hK (i := .ireturn) (nrc ok) (Or.inl ⟨rfl, Or.inr (Or.inr (Or.inr (Or.inl rfl))), _, rfl⟩) (by decide +kernel) (by decide) (by decide) ⟨rfl, rfl⟩
    · replace q2 := (h_ge _ _).2 q2
      refine Run.pure hK (seg := [(23, .bipush 65, 2), (25, .iload_n 1, 1), (26, .bipush 26, 2), (28, .isub, 1), (29, .iadd, 1), (30, .i2c, 1)]) (by decide +kernel) (pc' := 31) (L' := #[.val (.int x0), .val (.int k)]) (S' := [(.int ((65 : Int32) + (k - (26 : Int32))).toUInt32.toUInt16.toUInt32.toInt32)]) rfl ?_
      have e : ((65 : Int32) + (k - (26 : Int32))) = chG k := by unfold chG; rw [if_neg q1, if_pos q2]
      rw [e, c16 ok.1 (lt255 ok.2)]
      exact Run.retw hK (i := .ireturn) (nrc ok) (Or.inl ⟨rfl, Or.inr (Or.inr (Or.inr (Or.inl rfl))), _, rfl⟩) (by decide +kernel) (by decide) (by decide) ⟨rfl, rfl⟩
  · replace q1 := (h_ge _ _).2 q1
    refine Run.pure hK (seg := [(11, .bipush 97, 2), (13, .iload_n 1, 1), (14, .iadd, 1), (15, .i2c, 1)]) (by decide +kernel) (pc' := 16) (L' := #[.val (.int x0), .val (.int k)]) (S' := [(.int ((97 : Int32) + k).toUInt32.toUInt16.toUInt32.toInt32)]) rfl ?_
    have e : ((97 : Int32) + k) = chG k := by unfold chG; rw [if_pos q1]
    rw [e, c16 ok.1 (lt255 ok.2)]
    exact Run.retw hK (i := .ireturn) (nrc ok) (Or.inl ⟨rfl, Or.inr (Or.inr (Or.inr (Or.inl rfl))), _, rfl⟩) (by decide +kernel) (by decide) (by decide) ⟨rfl, rfl⟩
set_option maxRecDepth 65536 in
set_option maxHeartbeats 40000000 in
theorem c_qual {l : Launch} {Z : State} {a0 : Array Value} {z0 : Int32} {fm : Value} (G : Env1 Z a0 z0 fm) (x0 : Int32) (h : Heap) : Ctr Z consts_1 false l [] (⟨"org/osgi/framework/VersionEqualsPinLaw", "qual", "(I)Ljava/lang/String;"⟩ : MethodName) method_3_code 5 (some (.object "java/lang/String")) ({ frames := 5, cells := 6, slots := 16, locals := 90 } : Room) #[(.int x0)] h [] (fun v h' => ∃ a, v = some (.ref a) ∧ Str Z h' a (quF x0) ∧ Ext h h') := by
  obtain ⟨hw, hEL, O2, P5, O4⟩ := id G
  refine Ctr.of_run (a0 := a0) (L0 := #[.val (.int x0), .unset, .unset, .unset, .unset]) (plainFor_of_name pn_law) hEL (by first | (simp [argsToLocals, Value.category, maxLocals]; done) | rfl) (fun K hK => ?_)
  refine Run.old (fun hO => ?_)
  refine Run.pure hK (seg := [(0, .iload_n 0, 1), (1, .iconst 3, 1), (2, .iand, 1), (3, .istore_n 1, 1)]) (by decide +kernel) (pc' := 4) (L' := #[.val (.int x0), .val (.int (x0 &&& (3 : Int32))), .unset, .unset, .unset]) (S' := []) rfl ?_
  have hn := and3 x0
  obtain ⟨n, e_n⟩ : ∃ z : Int32, z = (x0 &&& (3 : Int32)) := ⟨_, rfl⟩
  have hs : quF x0 = if n = 0 then [] else if n = 1 then [chG (D0 x0)] else if n = 2 then [chG (D0 x0), chG (D1 x0)] else [chG (D0 x0), chG (D1 x0), chG (D2 x0)] := by rw [e_n]; rfl
  have hb := fun c hc => okq_in (quF_ok x0 c hc)
  rw [← e_n] at hn ⊢
  clear e_n
  rcases hn with rfl | rfl | rfl | rfl
  · replace hs : quF x0 = [] := by rw [hs]; rfl
    rw [hs] at hb ⊢
    refine Run.pure hK (seg := [(4, .iload_n 1, 1)]) (by decide +kernel) (pc' := 5) (L' := #[.val (.int x0), .val (.int (0 : Int32)), .unset, .unset, .unset]) (S' := [(.int (0 : Int32))]) rfl ?_
    refine Run.ifz hK (cd := .ne) (o := 14) (by decide +kernel) (by decide) (pc' := 19) rfl (fun q => by replace q := (h_ne _ _).1 q; exact absurd rfl q) (fun _ => ?_)
    refine Run.new hK (index := 7) (C := "java/lang/String") (n := 4) (hw _ (List.mem_of_getElem? (i := 8) rfl)) (hw _ (List.mem_of_getElem? (i := 9) rfl)) (hw _ (List.mem_of_getElem? (i := 10) rfl)) (by decide +kernel) (by decide) (by decide) (fun hs1 Es1 Xs1 Ds1 => ?_)
    obtain ⟨as1, zs1⟩ : ∃ z, z = h.size := ⟨_, rfl⟩
    rw [← zs1]
    rw [← zs1] at Xs1 Ds1
    refine Run.pure hK (seg := [(11, .dup, 1), (12, .iconst 0, 1)]) (by decide +kernel) (pc' := 13) (L' := #[.val (.int x0), .val (.int (0 : Int32)), .unset, .unset, .unset]) (S' := [(.int (0 : Int32)), (.ref as1), (.ref as1)]) rfl ?_
    refine Run.newarr hK (aty := .char) (hw _ (List.mem_of_getElem? (i := 11) rfl)) (by decide +kernel) (by decide) (cap := 0) (by decide) (by decide) (by decide) (by decide) (fun hr kr Er Ar => ?_)
    obtain ⟨ar, zr⟩ : ∃ z, z = hs1.size := ⟨_, rfl⟩
    rw [← zr]
    rw [← zr] at Ar
    have XL := Xs1.lt
    have gr : Z.heap.size ≤ ar := by rw [zr]; exact Nat.le_trans hO.1 Es1.1
    have Vs := (Ds1 (Or.inr (hw _ (List.mem_of_getElem? (i := 37) rfl))) (ty := .array .byte) (by decide)).ext Er
    have Cs := (Ds1 (Or.inr (hw _ (List.mem_of_getElem? (i := 35) rfl))) (ty := .byte) (by decide)).ext Er
    replace Xs1 := Xs1.ext Er
    have Tr := Ext.tr Es1 Er
    have nx : as1 ≠ ar := fun z => absurd XL (by rw [z, zr]; exact Nat.lt_irrefl _)
    refine Run.special hK (index := 9) (y := (⟨"java/lang/String", "<init>", "([C)V"⟩ : MethodName)) (Wt := 1) (kc := 4) (ks := 8) rfl (hw _ (List.mem_of_getElem? (i := 12) rfl)) (hw _ (List.mem_of_getElem? (i := 13) rfl)) (hw _ (List.mem_of_getElem? (i := 14) rfl)) (by decide) (a := as1) (fun _ q => q) (cal_newS G (cs := []) (by rw [zs1]; exact hO.1) (List.mem_cons_of_mem _ (List.mem_cons_self ..)) Xs1 Vs Cs Ar rfl (Nat.le_of_ble_eq_true rfl) hb (by decide) (by decide) (kc := 4) (ks := 8) (by decide) (by decide) (Nat.le_of_ble_eq_true rfl)) rfl (argsL := [(.ref ar)]) (rest := [(.ref as1)]) (lenOf pd_s1 rfl) rfl (Nat.le_of_ble_eq_true rfl) (by decide +kernel) (by decide) (by decide) (fun vt ht qt nt => ?_)
    obtain ⟨rfl, Ft, Kt⟩ := qt
    exact Run.retw hK (i := .areturn) rfl (Or.inr (Or.inr (Or.inr (Or.inr ⟨rfl, rfl, rfl⟩)))) (by decide +kernel) (by decide) (by decide) ⟨as1, rfl, Ft, ext_keep Tr Kt (fun x hx => by cases List.mem_singleton.mp hx; rw [zs1]; exact Nat.le_refl _)⟩
  · replace hs : quF x0 = [(chG (D0 x0))] := by rw [hs]; rfl
    rw [hs] at hb ⊢
    refine Run.pure hK (seg := [(4, .iload_n 1, 1)]) (by decide +kernel) (pc' := 5) (L' := #[.val (.int x0), .val (.int (1 : Int32)), .unset, .unset, .unset]) (S' := [(.int (1 : Int32))]) rfl ?_
    refine Run.ifz hK (cd := .ne) (o := 14) (by decide +kernel) (by decide) (pc' := 19) rfl (fun _ => ?_) (fun q => by replace q := (h_ne _ _).2 q; exact absurd q (by decide))
    refine Run.pure hK (seg := [(19, .iload_n 0, 1), (20, .iconst 2, 1), (21, .iushr, 1)]) (by decide +kernel) (pc' := 22) (L' := #[.val (.int x0), .val (.int (1 : Int32)), .unset, .unset, .unset]) (S' := [(.int (XT.ushr x0 (2 : Int32)))]) rfl ?_
    refine Run.static hK (index := 12) (y := (⟨"org/osgi/framework/VersionEqualsPinLaw", "ch", "(I)C"⟩ : MethodName)) (Wt := 0) (kc := 0) (ks := 0) (hw _ (List.mem_of_getElem? (i := 5) rfl)) (hw _ (List.mem_of_getElem? (i := 6) rfl)) (hw _ (List.mem_of_getElem? (i := 3) rfl)) (hw _ (List.mem_of_getElem? (i := 7) rfl)) (by decide) (W' := []) (fun _ q => nomatch q) (Ctr.cal (c_ch G (XT.ushr x0 2) h) (hw _ (List.mem_of_getElem? (i := 7) rfl)) (hw _ (List.mem_of_getElem? (i := 3) rfl)) (by decide) (by decide)) rfl (argsL := [(.int (XT.ushr x0 (2 : Int32)))]) (rest := []) (lenOf pd_ch rfl) rfl (Nat.le_of_ble_eq_true rfl) (by decide +kernel) (by decide) (by decide) (fun vc0 hc0 qc0 nc0 => ?_)
    obtain ⟨rfl, rfl⟩ := qc0
    refine Run.pure hK (seg := [(25, .istore_n 2, 1)]) (by decide +kernel) (pc' := 26) (L' := #[.val (.int x0), .val (.int (1 : Int32)), .val (.int (chG (D0 x0))), .unset, .unset]) (S' := []) rfl ?_
    refine Run.pure hK (seg := [(26, .iload_n 0, 1), (27, .bipush 8, 2), (29, .iushr, 1)]) (by decide +kernel) (pc' := 30) (L' := #[.val (.int x0), .val (.int (1 : Int32)), .val (.int (chG (D0 x0))), .unset, .unset]) (S' := [(.int (XT.ushr x0 (8 : Int32)))]) rfl ?_
    refine Run.static hK (index := 12) (y := (⟨"org/osgi/framework/VersionEqualsPinLaw", "ch", "(I)C"⟩ : MethodName)) (Wt := 0) (kc := 0) (ks := 0) (hw _ (List.mem_of_getElem? (i := 5) rfl)) (hw _ (List.mem_of_getElem? (i := 6) rfl)) (hw _ (List.mem_of_getElem? (i := 3) rfl)) (hw _ (List.mem_of_getElem? (i := 7) rfl)) (by decide) (W' := []) (fun _ q => nomatch q) (Ctr.cal (c_ch G (XT.ushr x0 8) hc0) (hw _ (List.mem_of_getElem? (i := 7) rfl)) (hw _ (List.mem_of_getElem? (i := 3) rfl)) (by decide) (by decide)) rfl (argsL := [(.int (XT.ushr x0 (8 : Int32)))]) (rest := []) (lenOf pd_ch rfl) rfl (Nat.le_of_ble_eq_true rfl) (by decide +kernel) (by decide) (by decide) (fun vc1 hc1 qc1 nc1 => ?_)
    obtain ⟨rfl, rfl⟩ := qc1
    refine Run.pure hK (seg := [(33, .istore_n 3, 1)]) (by decide +kernel) (pc' := 34) (L' := #[.val (.int x0), .val (.int (1 : Int32)), .val (.int (chG (D0 x0))), .val (.int (chG (D1 x0))), .unset]) (S' := []) rfl ?_
    refine Run.pure hK (seg := [(34, .iload_n 0, 1), (35, .bipush 14, 2), (37, .iushr, 1)]) (by decide +kernel) (pc' := 38) (L' := #[.val (.int x0), .val (.int (1 : Int32)), .val (.int (chG (D0 x0))), .val (.int (chG (D1 x0))), .unset]) (S' := [(.int (XT.ushr x0 (14 : Int32)))]) rfl ?_
    refine Run.static hK (index := 12) (y := (⟨"org/osgi/framework/VersionEqualsPinLaw", "ch", "(I)C"⟩ : MethodName)) (Wt := 0) (kc := 0) (ks := 0) (hw _ (List.mem_of_getElem? (i := 5) rfl)) (hw _ (List.mem_of_getElem? (i := 6) rfl)) (hw _ (List.mem_of_getElem? (i := 3) rfl)) (hw _ (List.mem_of_getElem? (i := 7) rfl)) (by decide) (W' := []) (fun _ q => nomatch q) (Ctr.cal (c_ch G (XT.ushr x0 14) hc1) (hw _ (List.mem_of_getElem? (i := 7) rfl)) (hw _ (List.mem_of_getElem? (i := 3) rfl)) (by decide) (by decide)) rfl (argsL := [(.int (XT.ushr x0 (14 : Int32)))]) (rest := []) (lenOf pd_ch rfl) rfl (Nat.le_of_ble_eq_true rfl) (by decide +kernel) (by decide) (by decide) (fun vc2 hc2 qc2 nc2 => ?_)
    obtain ⟨rfl, rfl⟩ := qc2
    refine Run.pure hK (seg := [(41, .istore 4, 2)]) (by decide +kernel) (pc' := 43) (L' := #[.val (.int x0), .val (.int (1 : Int32)), .val (.int (chG (D0 x0))), .val (.int (chG (D1 x0))), .val (.int (chG (D2 x0)))]) (S' := []) rfl ?_
    refine Run.pure hK (seg := [(43, .iload_n 1, 1), (44, .iconst 1, 1)]) (by decide +kernel) (pc' := 45) (L' := #[.val (.int x0), .val (.int (1 : Int32)), .val (.int (chG (D0 x0))), .val (.int (chG (D1 x0))), .val (.int (chG (D2 x0)))]) (S' := [(.int (1 : Int32)), (.int (1 : Int32))]) rfl ?_
    refine Run.icmp hK (cd := .ne) (o := 18) (by decide +kernel) (by decide) (pc' := 63) rfl (fun q => by replace q := (h_ne _ _).1 q; exact absurd rfl q) (fun _ => ?_)
    refine Run.new hK (index := 7) (C := "java/lang/String") (n := 4) (hw _ (List.mem_of_getElem? (i := 8) rfl)) (hw _ (List.mem_of_getElem? (i := 9) rfl)) (hw _ (List.mem_of_getElem? (i := 10) rfl)) (by decide +kernel) (by decide) (by decide) (fun hs1 Es1 Xs1 Ds1 => ?_)
    obtain ⟨as1, zs1⟩ : ∃ z, z = hc2.size := ⟨_, rfl⟩
    rw [← zs1]
    rw [← zs1] at Xs1 Ds1
    refine Run.pure hK (seg := [(51, .dup, 1), (52, .iconst 1, 1)]) (by decide +kernel) (pc' := 53) (L' := #[.val (.int x0), .val (.int (1 : Int32)), .val (.int (chG (D0 x0))), .val (.int (chG (D1 x0))), .val (.int (chG (D2 x0)))]) (S' := [(.int (1 : Int32)), (.ref as1), (.ref as1)]) rfl ?_
    refine Run.newarr hK (aty := .char) (hw _ (List.mem_of_getElem? (i := 11) rfl)) (by decide +kernel) (by decide) (cap := 1) (by decide) (by decide) (by decide) (by decide) (fun hr kr Er Ar => ?_)
    obtain ⟨ar, zr⟩ : ∃ z, z = hs1.size := ⟨_, rfl⟩
    rw [← zr]
    rw [← zr] at Ar
    have XL := Xs1.lt
    have gr : Z.heap.size ≤ ar := by rw [zr]; exact Nat.le_trans hO.1 Es1.1
    have Vs := (Ds1 (Or.inr (hw _ (List.mem_of_getElem? (i := 37) rfl))) (ty := .array .byte) (by decide)).ext Er
    have Cs := (Ds1 (Or.inr (hw _ (List.mem_of_getElem? (i := 35) rfl))) (ty := .byte) (by decide)).ext Er
    replace Xs1 := Xs1.ext Er
    have Tr := Ext.tr Es1 Er
    have nx : as1 ≠ ar := fun z => absurd XL (by rw [z, zr]; exact Nat.lt_irrefl _)
    refine Run.pure hK (seg := [(55, .dup, 1), (56, .iconst 0, 1), (57, .iload_n 2, 1)]) (by decide +kernel) (pc' := 58) (L' := #[.val (.int x0), .val (.int (1 : Int32)), .val (.int (chG (D0 x0))), .val (.int (chG (D1 x0))), .val (.int (chG (D2 x0)))]) (S' := [(.int (chG (D0 x0))), (.int (0 : Int32)), (.ref ar), (.ref ar), (.ref as1), (.ref as1)]) rfl ?_
    refine Run.cst hK Ar ⟨by decide, by decide⟩ gr (by decide +kernel) (fun hk0 Wk0 B0 => ?_)
    have A0 : Arv Z hk0 ar kr .char (1 : Int32) [(.int (chG (D0 x0)))] (.int 0) := by have q := B0; rw [nc (okq_in (chG_ok (D0 x0) (m63 _)))] at q; exact q
    replace Vs := Vs.other Wk0 (Or.inl nx)
    replace Cs := Cs.other Wk0 (Or.inl nx)
    replace Xs1 := Xs1.wr Wk0
    replace Tr := ext_wr Tr Wk0 (by rw [zr]; exact Es1.1)
    refine Run.special hK (index := 9) (y := (⟨"java/lang/String", "<init>", "([C)V"⟩ : MethodName)) (Wt := 1) (kc := 4) (ks := 8) rfl (hw _ (List.mem_of_getElem? (i := 12) rfl)) (hw _ (List.mem_of_getElem? (i := 13) rfl)) (hw _ (List.mem_of_getElem? (i := 14) rfl)) (by decide) (a := as1) (fun _ q => q) (cal_newS G (cs := [(chG (D0 x0))]) (by rw [zs1]; exact hO.1) (List.mem_cons_of_mem _ (List.mem_cons_self ..)) Xs1 Vs Cs A0 rfl (Nat.le_of_ble_eq_true rfl) hb (by decide) (by decide) (kc := 4) (ks := 8) (by decide) (by decide) (Nat.le_of_ble_eq_true rfl)) rfl (argsL := [(.ref ar)]) (rest := [(.ref as1)]) (lenOf pd_s1 rfl) rfl (Nat.le_of_ble_eq_true rfl) (by decide +kernel) (by decide) (by decide) (fun vt ht qt nt => ?_)
    obtain ⟨rfl, Ft, Kt⟩ := qt
    exact Run.retw hK (i := .areturn) rfl (Or.inr (Or.inr (Or.inr (Or.inr ⟨rfl, rfl, rfl⟩)))) (by decide +kernel) (by decide) (by decide) ⟨as1, rfl, Ft, ext_keep Tr Kt (fun x hx => by cases List.mem_singleton.mp hx; rw [zs1]; exact Nat.le_refl _)⟩
  · replace hs : quF x0 = [(chG (D0 x0)), (chG (D1 x0))] := by rw [hs]; rfl
    rw [hs] at hb ⊢
    refine Run.pure hK (seg := [(4, .iload_n 1, 1)]) (by decide +kernel) (pc' := 5) (L' := #[.val (.int x0), .val (.int (2 : Int32)), .unset, .unset, .unset]) (S' := [(.int (2 : Int32))]) rfl ?_
    refine Run.ifz hK (cd := .ne) (o := 14) (by decide +kernel) (by decide) (pc' := 19) rfl (fun _ => ?_) (fun q => by replace q := (h_ne _ _).2 q; exact absurd q (by decide))
    refine Run.pure hK (seg := [(19, .iload_n 0, 1), (20, .iconst 2, 1), (21, .iushr, 1)]) (by decide +kernel) (pc' := 22) (L' := #[.val (.int x0), .val (.int (2 : Int32)), .unset, .unset, .unset]) (S' := [(.int (XT.ushr x0 (2 : Int32)))]) rfl ?_
    refine Run.static hK (index := 12) (y := (⟨"org/osgi/framework/VersionEqualsPinLaw", "ch", "(I)C"⟩ : MethodName)) (Wt := 0) (kc := 0) (ks := 0) (hw _ (List.mem_of_getElem? (i := 5) rfl)) (hw _ (List.mem_of_getElem? (i := 6) rfl)) (hw _ (List.mem_of_getElem? (i := 3) rfl)) (hw _ (List.mem_of_getElem? (i := 7) rfl)) (by decide) (W' := []) (fun _ q => nomatch q) (Ctr.cal (c_ch G (XT.ushr x0 2) h) (hw _ (List.mem_of_getElem? (i := 7) rfl)) (hw _ (List.mem_of_getElem? (i := 3) rfl)) (by decide) (by decide)) rfl (argsL := [(.int (XT.ushr x0 (2 : Int32)))]) (rest := []) (lenOf pd_ch rfl) rfl (Nat.le_of_ble_eq_true rfl) (by decide +kernel) (by decide) (by decide) (fun vc0 hc0 qc0 nc0 => ?_)
    obtain ⟨rfl, rfl⟩ := qc0
    refine Run.pure hK (seg := [(25, .istore_n 2, 1)]) (by decide +kernel) (pc' := 26) (L' := #[.val (.int x0), .val (.int (2 : Int32)), .val (.int (chG (D0 x0))), .unset, .unset]) (S' := []) rfl ?_
    refine Run.pure hK (seg := [(26, .iload_n 0, 1), (27, .bipush 8, 2), (29, .iushr, 1)]) (by decide +kernel) (pc' := 30) (L' := #[.val (.int x0), .val (.int (2 : Int32)), .val (.int (chG (D0 x0))), .unset, .unset]) (S' := [(.int (XT.ushr x0 (8 : Int32)))]) rfl ?_
    refine Run.static hK (index := 12) (y := (⟨"org/osgi/framework/VersionEqualsPinLaw", "ch", "(I)C"⟩ : MethodName)) (Wt := 0) (kc := 0) (ks := 0) (hw _ (List.mem_of_getElem? (i := 5) rfl)) (hw _ (List.mem_of_getElem? (i := 6) rfl)) (hw _ (List.mem_of_getElem? (i := 3) rfl)) (hw _ (List.mem_of_getElem? (i := 7) rfl)) (by decide) (W' := []) (fun _ q => nomatch q) (Ctr.cal (c_ch G (XT.ushr x0 8) hc0) (hw _ (List.mem_of_getElem? (i := 7) rfl)) (hw _ (List.mem_of_getElem? (i := 3) rfl)) (by decide) (by decide)) rfl (argsL := [(.int (XT.ushr x0 (8 : Int32)))]) (rest := []) (lenOf pd_ch rfl) rfl (Nat.le_of_ble_eq_true rfl) (by decide +kernel) (by decide) (by decide) (fun vc1 hc1 qc1 nc1 => ?_)
    obtain ⟨rfl, rfl⟩ := qc1
    refine Run.pure hK (seg := [(33, .istore_n 3, 1)]) (by decide +kernel) (pc' := 34) (L' := #[.val (.int x0), .val (.int (2 : Int32)), .val (.int (chG (D0 x0))), .val (.int (chG (D1 x0))), .unset]) (S' := []) rfl ?_
    refine Run.pure hK (seg := [(34, .iload_n 0, 1), (35, .bipush 14, 2), (37, .iushr, 1)]) (by decide +kernel) (pc' := 38) (L' := #[.val (.int x0), .val (.int (2 : Int32)), .val (.int (chG (D0 x0))), .val (.int (chG (D1 x0))), .unset]) (S' := [(.int (XT.ushr x0 (14 : Int32)))]) rfl ?_
    refine Run.static hK (index := 12) (y := (⟨"org/osgi/framework/VersionEqualsPinLaw", "ch", "(I)C"⟩ : MethodName)) (Wt := 0) (kc := 0) (ks := 0) (hw _ (List.mem_of_getElem? (i := 5) rfl)) (hw _ (List.mem_of_getElem? (i := 6) rfl)) (hw _ (List.mem_of_getElem? (i := 3) rfl)) (hw _ (List.mem_of_getElem? (i := 7) rfl)) (by decide) (W' := []) (fun _ q => nomatch q) (Ctr.cal (c_ch G (XT.ushr x0 14) hc1) (hw _ (List.mem_of_getElem? (i := 7) rfl)) (hw _ (List.mem_of_getElem? (i := 3) rfl)) (by decide) (by decide)) rfl (argsL := [(.int (XT.ushr x0 (14 : Int32)))]) (rest := []) (lenOf pd_ch rfl) rfl (Nat.le_of_ble_eq_true rfl) (by decide +kernel) (by decide) (by decide) (fun vc2 hc2 qc2 nc2 => ?_)
    obtain ⟨rfl, rfl⟩ := qc2
    refine Run.pure hK (seg := [(41, .istore 4, 2)]) (by decide +kernel) (pc' := 43) (L' := #[.val (.int x0), .val (.int (2 : Int32)), .val (.int (chG (D0 x0))), .val (.int (chG (D1 x0))), .val (.int (chG (D2 x0)))]) (S' := []) rfl ?_
    refine Run.pure hK (seg := [(43, .iload_n 1, 1), (44, .iconst 1, 1)]) (by decide +kernel) (pc' := 45) (L' := #[.val (.int x0), .val (.int (2 : Int32)), .val (.int (chG (D0 x0))), .val (.int (chG (D1 x0))), .val (.int (chG (D2 x0)))]) (S' := [(.int (1 : Int32)), (.int (2 : Int32))]) rfl ?_
    refine Run.icmp hK (cd := .ne) (o := 18) (by decide +kernel) (by decide) (pc' := 63) rfl (fun _ => ?_) (fun q => by replace q := (h_ne _ _).2 q; exact absurd q (by decide))
    refine Run.pure hK (seg := [(63, .iload_n 1, 1), (64, .iconst 2, 1)]) (by decide +kernel) (pc' := 65) (L' := #[.val (.int x0), .val (.int (2 : Int32)), .val (.int (chG (D0 x0))), .val (.int (chG (D1 x0))), .val (.int (chG (D2 x0)))]) (S' := [(.int (2 : Int32)), (.int (2 : Int32))]) rfl ?_
    refine Run.icmp hK (cd := .ne) (o := 22) (by decide +kernel) (by decide) (pc' := 87) rfl (fun q => by replace q := (h_ne _ _).1 q; exact absurd rfl q) (fun _ => ?_)
    refine Run.new hK (index := 7) (C := "java/lang/String") (n := 4) (hw _ (List.mem_of_getElem? (i := 8) rfl)) (hw _ (List.mem_of_getElem? (i := 9) rfl)) (hw _ (List.mem_of_getElem? (i := 10) rfl)) (by decide +kernel) (by decide) (by decide) (fun hs1 Es1 Xs1 Ds1 => ?_)
    obtain ⟨as1, zs1⟩ : ∃ z, z = hc2.size := ⟨_, rfl⟩
    rw [← zs1]
    rw [← zs1] at Xs1 Ds1
    refine Run.pure hK (seg := [(71, .dup, 1), (72, .iconst 2, 1)]) (by decide +kernel) (pc' := 73) (L' := #[.val (.int x0), .val (.int (2 : Int32)), .val (.int (chG (D0 x0))), .val (.int (chG (D1 x0))), .val (.int (chG (D2 x0)))]) (S' := [(.int (2 : Int32)), (.ref as1), (.ref as1)]) rfl ?_
    refine Run.newarr hK (aty := .char) (hw _ (List.mem_of_getElem? (i := 11) rfl)) (by decide +kernel) (by decide) (cap := 2) (by decide) (by decide) (by decide) (by decide) (fun hr kr Er Ar => ?_)
    obtain ⟨ar, zr⟩ : ∃ z, z = hs1.size := ⟨_, rfl⟩
    rw [← zr]
    rw [← zr] at Ar
    have XL := Xs1.lt
    have gr : Z.heap.size ≤ ar := by rw [zr]; exact Nat.le_trans hO.1 Es1.1
    have Vs := (Ds1 (Or.inr (hw _ (List.mem_of_getElem? (i := 37) rfl))) (ty := .array .byte) (by decide)).ext Er
    have Cs := (Ds1 (Or.inr (hw _ (List.mem_of_getElem? (i := 35) rfl))) (ty := .byte) (by decide)).ext Er
    replace Xs1 := Xs1.ext Er
    have Tr := Ext.tr Es1 Er
    have nx : as1 ≠ ar := fun z => absurd XL (by rw [z, zr]; exact Nat.lt_irrefl _)
    refine Run.pure hK (seg := [(75, .dup, 1), (76, .iconst 0, 1), (77, .iload_n 2, 1)]) (by decide +kernel) (pc' := 78) (L' := #[.val (.int x0), .val (.int (2 : Int32)), .val (.int (chG (D0 x0))), .val (.int (chG (D1 x0))), .val (.int (chG (D2 x0)))]) (S' := [(.int (chG (D0 x0))), (.int (0 : Int32)), (.ref ar), (.ref ar), (.ref as1), (.ref as1)]) rfl ?_
    refine Run.cst hK Ar ⟨by decide, by decide⟩ gr (by decide +kernel) (fun hk0 Wk0 B0 => ?_)
    have A0 : Arv Z hk0 ar kr .char (2 : Int32) [(.int (chG (D0 x0))), (.int (0 : Int32))] (.int 0) := by have q := B0; rw [nc (okq_in (chG_ok (D0 x0) (m63 _)))] at q; exact q
    replace Vs := Vs.other Wk0 (Or.inl nx)
    replace Cs := Cs.other Wk0 (Or.inl nx)
    replace Xs1 := Xs1.wr Wk0
    replace Tr := ext_wr Tr Wk0 (by rw [zr]; exact Es1.1)
    refine Run.pure hK (seg := [(79, .dup, 1), (80, .iconst 1, 1), (81, .iload_n 3, 1)]) (by decide +kernel) (pc' := 82) (L' := #[.val (.int x0), .val (.int (2 : Int32)), .val (.int (chG (D0 x0))), .val (.int (chG (D1 x0))), .val (.int (chG (D2 x0)))]) (S' := [(.int (chG (D1 x0))), (.int (1 : Int32)), (.ref ar), (.ref ar), (.ref as1), (.ref as1)]) rfl ?_
    refine Run.cst hK A0 ⟨by decide, by decide⟩ gr (by decide +kernel) (fun hk1 Wk1 B1 => ?_)
    have A1 : Arv Z hk1 ar kr .char (2 : Int32) [(.int (chG (D0 x0))), (.int (chG (D1 x0)))] (.int 0) := by have q := B1; rw [nc (okq_in (chG_ok (D1 x0) (m63 _)))] at q; exact q
    replace Vs := Vs.other Wk1 (Or.inl nx)
    replace Cs := Cs.other Wk1 (Or.inl nx)
    replace Xs1 := Xs1.wr Wk1
    replace Tr := ext_wr Tr Wk1 (by rw [zr]; exact Es1.1)
    refine Run.special hK (index := 9) (y := (⟨"java/lang/String", "<init>", "([C)V"⟩ : MethodName)) (Wt := 1) (kc := 4) (ks := 8) rfl (hw _ (List.mem_of_getElem? (i := 12) rfl)) (hw _ (List.mem_of_getElem? (i := 13) rfl)) (hw _ (List.mem_of_getElem? (i := 14) rfl)) (by decide) (a := as1) (fun _ q => q) (cal_newS G (cs := [(chG (D0 x0)), (chG (D1 x0))]) (by rw [zs1]; exact hO.1) (List.mem_cons_of_mem _ (List.mem_cons_self ..)) Xs1 Vs Cs A1 rfl (Nat.le_of_ble_eq_true rfl) hb (by decide) (by decide) (kc := 4) (ks := 8) (by decide) (by decide) (Nat.le_of_ble_eq_true rfl)) rfl (argsL := [(.ref ar)]) (rest := [(.ref as1)]) (lenOf pd_s1 rfl) rfl (Nat.le_of_ble_eq_true rfl) (by decide +kernel) (by decide) (by decide) (fun vt ht qt nt => ?_)
    obtain ⟨rfl, Ft, Kt⟩ := qt
    exact Run.retw hK (i := .areturn) rfl (Or.inr (Or.inr (Or.inr (Or.inr ⟨rfl, rfl, rfl⟩)))) (by decide +kernel) (by decide) (by decide) ⟨as1, rfl, Ft, ext_keep Tr Kt (fun x hx => by cases List.mem_singleton.mp hx; rw [zs1]; exact Nat.le_refl _)⟩
  · replace hs : quF x0 = [(chG (D0 x0)), (chG (D1 x0)), (chG (D2 x0))] := by rw [hs]; rfl
    rw [hs] at hb ⊢
    refine Run.pure hK (seg := [(4, .iload_n 1, 1)]) (by decide +kernel) (pc' := 5) (L' := #[.val (.int x0), .val (.int (3 : Int32)), .unset, .unset, .unset]) (S' := [(.int (3 : Int32))]) rfl ?_
    refine Run.ifz hK (cd := .ne) (o := 14) (by decide +kernel) (by decide) (pc' := 19) rfl (fun _ => ?_) (fun q => by replace q := (h_ne _ _).2 q; exact absurd q (by decide))
    refine Run.pure hK (seg := [(19, .iload_n 0, 1), (20, .iconst 2, 1), (21, .iushr, 1)]) (by decide +kernel) (pc' := 22) (L' := #[.val (.int x0), .val (.int (3 : Int32)), .unset, .unset, .unset]) (S' := [(.int (XT.ushr x0 (2 : Int32)))]) rfl ?_
    refine Run.static hK (index := 12) (y := (⟨"org/osgi/framework/VersionEqualsPinLaw", "ch", "(I)C"⟩ : MethodName)) (Wt := 0) (kc := 0) (ks := 0) (hw _ (List.mem_of_getElem? (i := 5) rfl)) (hw _ (List.mem_of_getElem? (i := 6) rfl)) (hw _ (List.mem_of_getElem? (i := 3) rfl)) (hw _ (List.mem_of_getElem? (i := 7) rfl)) (by decide) (W' := []) (fun _ q => nomatch q) (Ctr.cal (c_ch G (XT.ushr x0 2) h) (hw _ (List.mem_of_getElem? (i := 7) rfl)) (hw _ (List.mem_of_getElem? (i := 3) rfl)) (by decide) (by decide)) rfl (argsL := [(.int (XT.ushr x0 (2 : Int32)))]) (rest := []) (lenOf pd_ch rfl) rfl (Nat.le_of_ble_eq_true rfl) (by decide +kernel) (by decide) (by decide) (fun vc0 hc0 qc0 nc0 => ?_)
    obtain ⟨rfl, rfl⟩ := qc0
    refine Run.pure hK (seg := [(25, .istore_n 2, 1)]) (by decide +kernel) (pc' := 26) (L' := #[.val (.int x0), .val (.int (3 : Int32)), .val (.int (chG (D0 x0))), .unset, .unset]) (S' := []) rfl ?_
    refine Run.pure hK (seg := [(26, .iload_n 0, 1), (27, .bipush 8, 2), (29, .iushr, 1)]) (by decide +kernel) (pc' := 30) (L' := #[.val (.int x0), .val (.int (3 : Int32)), .val (.int (chG (D0 x0))), .unset, .unset]) (S' := [(.int (XT.ushr x0 (8 : Int32)))]) rfl ?_
    refine Run.static hK (index := 12) (y := (⟨"org/osgi/framework/VersionEqualsPinLaw", "ch", "(I)C"⟩ : MethodName)) (Wt := 0) (kc := 0) (ks := 0) (hw _ (List.mem_of_getElem? (i := 5) rfl)) (hw _ (List.mem_of_getElem? (i := 6) rfl)) (hw _ (List.mem_of_getElem? (i := 3) rfl)) (hw _ (List.mem_of_getElem? (i := 7) rfl)) (by decide) (W' := []) (fun _ q => nomatch q) (Ctr.cal (c_ch G (XT.ushr x0 8) hc0) (hw _ (List.mem_of_getElem? (i := 7) rfl)) (hw _ (List.mem_of_getElem? (i := 3) rfl)) (by decide) (by decide)) rfl (argsL := [(.int (XT.ushr x0 (8 : Int32)))]) (rest := []) (lenOf pd_ch rfl) rfl (Nat.le_of_ble_eq_true rfl) (by decide +kernel) (by decide) (by decide) (fun vc1 hc1 qc1 nc1 => ?_)
    obtain ⟨rfl, rfl⟩ := qc1
    refine Run.pure hK (seg := [(33, .istore_n 3, 1)]) (by decide +kernel) (pc' := 34) (L' := #[.val (.int x0), .val (.int (3 : Int32)), .val (.int (chG (D0 x0))), .val (.int (chG (D1 x0))), .unset]) (S' := []) rfl ?_
    refine Run.pure hK (seg := [(34, .iload_n 0, 1), (35, .bipush 14, 2), (37, .iushr, 1)]) (by decide +kernel) (pc' := 38) (L' := #[.val (.int x0), .val (.int (3 : Int32)), .val (.int (chG (D0 x0))), .val (.int (chG (D1 x0))), .unset]) (S' := [(.int (XT.ushr x0 (14 : Int32)))]) rfl ?_
    refine Run.static hK (index := 12) (y := (⟨"org/osgi/framework/VersionEqualsPinLaw", "ch", "(I)C"⟩ : MethodName)) (Wt := 0) (kc := 0) (ks := 0) (hw _ (List.mem_of_getElem? (i := 5) rfl)) (hw _ (List.mem_of_getElem? (i := 6) rfl)) (hw _ (List.mem_of_getElem? (i := 3) rfl)) (hw _ (List.mem_of_getElem? (i := 7) rfl)) (by decide) (W' := []) (fun _ q => nomatch q) (Ctr.cal (c_ch G (XT.ushr x0 14) hc1) (hw _ (List.mem_of_getElem? (i := 7) rfl)) (hw _ (List.mem_of_getElem? (i := 3) rfl)) (by decide) (by decide)) rfl (argsL := [(.int (XT.ushr x0 (14 : Int32)))]) (rest := []) (lenOf pd_ch rfl) rfl (Nat.le_of_ble_eq_true rfl) (by decide +kernel) (by decide) (by decide) (fun vc2 hc2 qc2 nc2 => ?_)
    obtain ⟨rfl, rfl⟩ := qc2
    refine Run.pure hK (seg := [(41, .istore 4, 2)]) (by decide +kernel) (pc' := 43) (L' := #[.val (.int x0), .val (.int (3 : Int32)), .val (.int (chG (D0 x0))), .val (.int (chG (D1 x0))), .val (.int (chG (D2 x0)))]) (S' := []) rfl ?_
    refine Run.pure hK (seg := [(43, .iload_n 1, 1), (44, .iconst 1, 1)]) (by decide +kernel) (pc' := 45) (L' := #[.val (.int x0), .val (.int (3 : Int32)), .val (.int (chG (D0 x0))), .val (.int (chG (D1 x0))), .val (.int (chG (D2 x0)))]) (S' := [(.int (1 : Int32)), (.int (3 : Int32))]) rfl ?_
    refine Run.icmp hK (cd := .ne) (o := 18) (by decide +kernel) (by decide) (pc' := 63) rfl (fun _ => ?_) (fun q => by replace q := (h_ne _ _).2 q; exact absurd q (by decide))
    refine Run.pure hK (seg := [(63, .iload_n 1, 1), (64, .iconst 2, 1)]) (by decide +kernel) (pc' := 65) (L' := #[.val (.int x0), .val (.int (3 : Int32)), .val (.int (chG (D0 x0))), .val (.int (chG (D1 x0))), .val (.int (chG (D2 x0)))]) (S' := [(.int (2 : Int32)), (.int (3 : Int32))]) rfl ?_
    refine Run.icmp hK (cd := .ne) (o := 22) (by decide +kernel) (by decide) (pc' := 87) rfl (fun _ => ?_) (fun q => by replace q := (h_ne _ _).2 q; exact absurd q (by decide))
    refine Run.new hK (index := 7) (C := "java/lang/String") (n := 4) (hw _ (List.mem_of_getElem? (i := 8) rfl)) (hw _ (List.mem_of_getElem? (i := 9) rfl)) (hw _ (List.mem_of_getElem? (i := 10) rfl)) (by decide +kernel) (by decide) (by decide) (fun hs1 Es1 Xs1 Ds1 => ?_)
    obtain ⟨as1, zs1⟩ : ∃ z, z = hc2.size := ⟨_, rfl⟩
    rw [← zs1]
    rw [← zs1] at Xs1 Ds1
    refine Run.pure hK (seg := [(90, .dup, 1), (91, .iconst 3, 1)]) (by decide +kernel) (pc' := 92) (L' := #[.val (.int x0), .val (.int (3 : Int32)), .val (.int (chG (D0 x0))), .val (.int (chG (D1 x0))), .val (.int (chG (D2 x0)))]) (S' := [(.int (3 : Int32)), (.ref as1), (.ref as1)]) rfl ?_
    refine Run.newarr hK (aty := .char) (hw _ (List.mem_of_getElem? (i := 11) rfl)) (by decide +kernel) (by decide) (cap := 3) (by decide) (by decide) (by decide) (by decide) (fun hr kr Er Ar => ?_)
    obtain ⟨ar, zr⟩ : ∃ z, z = hs1.size := ⟨_, rfl⟩
    rw [← zr]
    rw [← zr] at Ar
    have XL := Xs1.lt
    have gr : Z.heap.size ≤ ar := by rw [zr]; exact Nat.le_trans hO.1 Es1.1
    have Vs := (Ds1 (Or.inr (hw _ (List.mem_of_getElem? (i := 37) rfl))) (ty := .array .byte) (by decide)).ext Er
    have Cs := (Ds1 (Or.inr (hw _ (List.mem_of_getElem? (i := 35) rfl))) (ty := .byte) (by decide)).ext Er
    replace Xs1 := Xs1.ext Er
    have Tr := Ext.tr Es1 Er
    have nx : as1 ≠ ar := fun z => absurd XL (by rw [z, zr]; exact Nat.lt_irrefl _)
    refine Run.pure hK (seg := [(94, .dup, 1), (95, .iconst 0, 1), (96, .iload_n 2, 1)]) (by decide +kernel) (pc' := 97) (L' := #[.val (.int x0), .val (.int (3 : Int32)), .val (.int (chG (D0 x0))), .val (.int (chG (D1 x0))), .val (.int (chG (D2 x0)))]) (S' := [(.int (chG (D0 x0))), (.int (0 : Int32)), (.ref ar), (.ref ar), (.ref as1), (.ref as1)]) rfl ?_
    refine Run.cst hK Ar ⟨by decide, by decide⟩ gr (by decide +kernel) (fun hk0 Wk0 B0 => ?_)
    have A0 : Arv Z hk0 ar kr .char (3 : Int32) [(.int (chG (D0 x0))), (.int (0 : Int32)), (.int (0 : Int32))] (.int 0) := by have q := B0; rw [nc (okq_in (chG_ok (D0 x0) (m63 _)))] at q; exact q
    replace Vs := Vs.other Wk0 (Or.inl nx)
    replace Cs := Cs.other Wk0 (Or.inl nx)
    replace Xs1 := Xs1.wr Wk0
    replace Tr := ext_wr Tr Wk0 (by rw [zr]; exact Es1.1)
    refine Run.pure hK (seg := [(98, .dup, 1), (99, .iconst 1, 1), (100, .iload_n 3, 1)]) (by decide +kernel) (pc' := 101) (L' := #[.val (.int x0), .val (.int (3 : Int32)), .val (.int (chG (D0 x0))), .val (.int (chG (D1 x0))), .val (.int (chG (D2 x0)))]) (S' := [(.int (chG (D1 x0))), (.int (1 : Int32)), (.ref ar), (.ref ar), (.ref as1), (.ref as1)]) rfl ?_
    refine Run.cst hK A0 ⟨by decide, by decide⟩ gr (by decide +kernel) (fun hk1 Wk1 B1 => ?_)
    have A1 : Arv Z hk1 ar kr .char (3 : Int32) [(.int (chG (D0 x0))), (.int (chG (D1 x0))), (.int (0 : Int32))] (.int 0) := by have q := B1; rw [nc (okq_in (chG_ok (D1 x0) (m63 _)))] at q; exact q
    replace Vs := Vs.other Wk1 (Or.inl nx)
    replace Cs := Cs.other Wk1 (Or.inl nx)
    replace Xs1 := Xs1.wr Wk1
    replace Tr := ext_wr Tr Wk1 (by rw [zr]; exact Es1.1)
    refine Run.pure hK (seg := [(102, .dup, 1), (103, .iconst 2, 1), (104, .iload 4, 2)]) (by decide +kernel) (pc' := 106) (L' := #[.val (.int x0), .val (.int (3 : Int32)), .val (.int (chG (D0 x0))), .val (.int (chG (D1 x0))), .val (.int (chG (D2 x0)))]) (S' := [(.int (chG (D2 x0))), (.int (2 : Int32)), (.ref ar), (.ref ar), (.ref as1), (.ref as1)]) rfl ?_
    refine Run.cst hK A1 ⟨by decide, by decide⟩ gr (by decide +kernel) (fun hk2 Wk2 B2 => ?_)
    have A2 : Arv Z hk2 ar kr .char (3 : Int32) [(.int (chG (D0 x0))), (.int (chG (D1 x0))), (.int (chG (D2 x0)))] (.int 0) := by have q := B2; rw [nc (okq_in (chG_ok (D2 x0) (m63 _)))] at q; exact q
    replace Vs := Vs.other Wk2 (Or.inl nx)
    replace Cs := Cs.other Wk2 (Or.inl nx)
    replace Xs1 := Xs1.wr Wk2
    replace Tr := ext_wr Tr Wk2 (by rw [zr]; exact Es1.1)
    refine Run.special hK (index := 9) (y := (⟨"java/lang/String", "<init>", "([C)V"⟩ : MethodName)) (Wt := 1) (kc := 4) (ks := 8) rfl (hw _ (List.mem_of_getElem? (i := 12) rfl)) (hw _ (List.mem_of_getElem? (i := 13) rfl)) (hw _ (List.mem_of_getElem? (i := 14) rfl)) (by decide) (a := as1) (fun _ q => q) (cal_newS G (cs := [(chG (D0 x0)), (chG (D1 x0)), (chG (D2 x0))]) (by rw [zs1]; exact hO.1) (List.mem_cons_of_mem _ (List.mem_cons_self ..)) Xs1 Vs Cs A2 rfl (Nat.le_of_ble_eq_true rfl) hb (by decide) (by decide) (kc := 4) (ks := 8) (by decide) (by decide) (Nat.le_of_ble_eq_true rfl)) rfl (argsL := [(.ref ar)]) (rest := [(.ref as1)]) (lenOf pd_s1 rfl) rfl (Nat.le_of_ble_eq_true rfl) (by decide +kernel) (by decide) (by decide) (fun vt ht qt nt => ?_)
    obtain ⟨rfl, Ft, Kt⟩ := qt
    exact Run.retw hK (i := .areturn) rfl (Or.inr (Or.inr (Or.inr (Or.inr ⟨rfl, rfl, rfl⟩)))) (by decide +kernel) (by decide) (by decide) ⟨as1, rfl, Ft, ext_keep Tr Kt (fun x hx => by cases List.mem_singleton.mp hx; rw [zs1]; exact Nat.le_refl _)⟩
set_option maxRecDepth 65536 in
set_option maxHeartbeats 40000000 in
theorem c_vali {l : Launch} {Z : State} {a0 : Array Value} {z0 : Int32} {fm : Value} (G : Env1 Z a0 z0 fm) (x0 s0 : Addr) (m1 m2 m3 : Int32) {cs : List Int32} (h : Heap) (V : Ver Z h x0 m1 m2 m3 s0) (F : Str Z h s0 cs) (g1 : ¬ m1 < 0) (g2 : ¬ m2 < 0) (g3 : ¬ m3 < 0) (hok : ∀ r ∈ cs, okq r) : Ctr Z consts_1 false l [] (⟨"org/osgi/framework/Version", "validate", "()V"⟩ : MethodName) prog_142_method_14_code 4 none ({ frames := 4, cells := 0, slots := 0, locals := 54 } : Room) #[(.ref x0)] h [] (fun v h' => h' = h ∧ v = none) := by
  obtain ⟨hw, hEL, O2, P5, O4⟩ := id G
  refine Ctr.of_run (a0 := a0) (L0 := #[.val (.ref x0), .unset, .unset, .unset]) (plainFor_of_name pn_ve) hEL (by first | (simp [argsToLocals, Value.category, maxLocals]; done) | rfl) (fun K hK => ?_)
  obtain ⟨V1, V2, V3, V4, V5⟩ := V
  have hl := F.2.2.2.2
  have loop : ∀ (m i : Nat) (o2 o3 : Slot), i + m = cs.length → ((o2 = .unset ∧ o3 = .unset) ∨ ∃ y z, o2 = .val (.int y) ∧ o3 = .val (.int z)) → Run Z consts_1 false K (fun v h' => h' = h ∧ v = none) [] h 0 0 40 #[.val (.ref x0), .val (.int (Int32.ofNat i)), o2, o3] [] := by
    intro m
    induction m with
    | zero =>
      intro i o2 o3 hm ho
      rcases ho with ⟨rfl, rfl⟩ | ⟨y, z, rfl, rfl⟩
      · obtain rfl : i = cs.length := by omega
        refine Run.pure hK (seg := [(40, .iload_n 1, 1), (41, .aload_n 0, 1)]) (by decide +kernel) (pc' := 42) (L' := #[.val (.ref x0), .val (.int (Int32.ofNat cs.length)), .unset, .unset]) (S' := [(.ref x0), (.int (Int32.ofNat cs.length))]) rfl ?_
        refine Run.getf hK (index := 24) (host := "") (Or.inl (hw _ (List.mem_of_getElem? (i := 51) rfl))) Via.refl V5 (by decide +kernel) ?_
        refine Run.virtual hK (index := 91) (y := (⟨"java/lang/String", "length", "()I"⟩ : MethodName)) (z := (⟨"java/lang/String", "length", "()I"⟩ : MethodName)) (C := "java/lang/String") (Wt := 1) (kc := 0) (ks := 0) (hw _ (List.mem_of_getElem? (i := 57) rfl)) (hw _ (List.mem_of_getElem? (i := 58) rfl)) (nfS (hw _ (List.mem_of_getElem? (i := 60) rfl))) (hw _ (List.mem_of_getElem? (i := 60) rfl)) (hw _ (List.mem_of_getElem? (i := 59) rfl)) (by decide) (a := s0) F.1 (fun _ q => q) (cal_len (cs := cs) (g_lenW hw) (hw _ (List.mem_of_getElem? (i := 9) rfl)) F O2 P5 (by decide) (by decide)) rfl (argsL := []) (rest := [(.int (Int32.ofNat cs.length))]) (lenOf pd_len rfl) rfl (Nat.le_of_ble_eq_true rfl) (by decide +kernel) (by decide) (by decide) (fun v1 h1 q1 n1 => ?_)
        obtain ⟨rfl, rfl⟩ := q1
        refine Run.icmp hK (cd := .ge) (o := 94) (by decide +kernel) (by decide) (pc' := 142) rfl (fun _ => ?_) (fun q => by replace q := (h_ge _ _).2 q; exact absurd q Int32.lt_irrefl)
        exact Run.retv hK (by decide +kernel) (by decide) (by decide) ⟨rfl, rfl⟩
      · obtain rfl : i = cs.length := by omega
        refine Run.pure hK (seg := [(40, .iload_n 1, 1), (41, .aload_n 0, 1)]) (by decide +kernel) (pc' := 42) (L' := #[.val (.ref x0), .val (.int (Int32.ofNat cs.length)), .val (.int y), .val (.int z)]) (S' := [(.ref x0), (.int (Int32.ofNat cs.length))]) rfl ?_
        refine Run.getf hK (index := 24) (host := "") (Or.inl (hw _ (List.mem_of_getElem? (i := 51) rfl))) Via.refl V5 (by decide +kernel) ?_
        refine Run.virtual hK (index := 91) (y := (⟨"java/lang/String", "length", "()I"⟩ : MethodName)) (z := (⟨"java/lang/String", "length", "()I"⟩ : MethodName)) (C := "java/lang/String") (Wt := 1) (kc := 0) (ks := 0) (hw _ (List.mem_of_getElem? (i := 57) rfl)) (hw _ (List.mem_of_getElem? (i := 58) rfl)) (nfS (hw _ (List.mem_of_getElem? (i := 60) rfl))) (hw _ (List.mem_of_getElem? (i := 60) rfl)) (hw _ (List.mem_of_getElem? (i := 59) rfl)) (by decide) (a := s0) F.1 (fun _ q => q) (cal_len (cs := cs) (g_lenW hw) (hw _ (List.mem_of_getElem? (i := 9) rfl)) F O2 P5 (by decide) (by decide)) rfl (argsL := []) (rest := [(.int (Int32.ofNat cs.length))]) (lenOf pd_len rfl) rfl (Nat.le_of_ble_eq_true rfl) (by decide +kernel) (by decide) (by decide) (fun v1 h1 q1 n1 => ?_)
        obtain ⟨rfl, rfl⟩ := q1
        refine Run.icmp hK (cd := .ge) (o := 94) (by decide +kernel) (by decide) (pc' := 142) rfl (fun _ => ?_) (fun q => by replace q := (h_ge _ _).2 q; exact absurd q Int32.lt_irrefl)
        exact Run.retv hK (by decide +kernel) (by decide) (by decide) ⟨rfl, rfl⟩
    | succ m ih =>
      intro i o2 o3 hm ho
      rcases ho with ⟨rfl, rfl⟩ | ⟨y, z, rfl, rfl⟩
      · refine Run.pure hK (seg := [(40, .iload_n 1, 1), (41, .aload_n 0, 1)]) (by decide +kernel) (pc' := 42) (L' := #[.val (.ref x0), .val (.int (Int32.ofNat i)), .unset, .unset]) (S' := [(.ref x0), (.int (Int32.ofNat i))]) rfl ?_
        refine Run.getf hK (index := 24) (host := "") (Or.inl (hw _ (List.mem_of_getElem? (i := 51) rfl))) Via.refl V5 (by decide +kernel) ?_
        refine Run.virtual hK (index := 91) (y := (⟨"java/lang/String", "length", "()I"⟩ : MethodName)) (z := (⟨"java/lang/String", "length", "()I"⟩ : MethodName)) (C := "java/lang/String") (Wt := 1) (kc := 0) (ks := 0) (hw _ (List.mem_of_getElem? (i := 57) rfl)) (hw _ (List.mem_of_getElem? (i := 58) rfl)) (nfS (hw _ (List.mem_of_getElem? (i := 60) rfl))) (hw _ (List.mem_of_getElem? (i := 60) rfl)) (hw _ (List.mem_of_getElem? (i := 59) rfl)) (by decide) (a := s0) F.1 (fun _ q => q) (cal_len (cs := cs) (g_lenW hw) (hw _ (List.mem_of_getElem? (i := 9) rfl)) F O2 P5 (by decide) (by decide)) rfl (argsL := []) (rest := [(.int (Int32.ofNat i))]) (lenOf pd_len rfl) rfl (Nat.le_of_ble_eq_true rfl) (by decide +kernel) (by decide) (by decide) (fun v1 h1 q1 n1 => ?_)
        obtain ⟨rfl, rfl⟩ := q1
        have hi : i < cs.length := by omega
        refine Run.icmp hK (cd := .ge) (o := 94) (by decide +kernel) (by decide) (pc' := 142) rfl (fun q => by replace q := (h_ge _ _).1 q; exact absurd (show Int32.ofNat i < Int32.ofNat cs.length by rw [Int32.lt_iff_toInt_lt, ofN (by omega), ofN (by omega)]; omega) q) (fun _ => ?_)
        refine Run.pure hK (seg := [(51, .aload_n 0, 1)]) (by decide +kernel) (pc' := 52) (L' := #[.val (.ref x0), .val (.int (Int32.ofNat i)), .unset, .unset]) (S' := [(.ref x0)]) rfl ?_
        refine Run.getf hK (index := 24) (host := "") (Or.inl (hw _ (List.mem_of_getElem? (i := 51) rfl))) Via.refl V5 (by decide +kernel) ?_
        refine Run.pure hK (seg := [(55, .iload_n 1, 1)]) (by decide +kernel) (pc' := 56) (L' := #[.val (.ref x0), .val (.int (Int32.ofNat i)), .unset, .unset]) (S' := [(.int (Int32.ofNat i)), (.ref s0)]) rfl ?_
        refine Run.virtual hK (index := 94) (y := (⟨"java/lang/String", "charAt", "(I)C"⟩ : MethodName)) (z := (⟨"java/lang/String", "charAt", "(I)C"⟩ : MethodName)) (C := "java/lang/String") (Wt := 0) (kc := 0) (ks := 0) (hw _ (List.mem_of_getElem? (i := 67) rfl)) (hw _ (List.mem_of_getElem? (i := 68) rfl)) (nfS (hw _ (List.mem_of_getElem? (i := 70) rfl))) (hw _ (List.mem_of_getElem? (i := 70) rfl)) (hw _ (List.mem_of_getElem? (i := 69) rfl)) (by decide) (a := s0) F.1 (fun _ q => q) (cal_chr (cs := cs) (g_chN hw) (hw _ (List.mem_of_getElem? (i := 9) rfl)) F O2 P5 O4.1 O4.2 (i := i) hi rfl (by decide) (by decide)) rfl (argsL := [(.int (Int32.ofNat i))]) (rest := []) (lenOf pd_ch rfl) rfl (Nat.le_of_ble_eq_true rfl) (by decide +kernel) (by decide) (by decide) (fun v2 h2 q2 n2 => ?_)
        obtain ⟨rfl, rfl⟩ := q2
        refine Run.pure hK (seg := [(59, .istore_n 2, 1)]) (by decide +kernel) (pc' := 60) (L' := #[.val (.ref x0), .val (.int (Int32.ofNat i)), .val (.int (cs.getD i 0)), .unset]) (S' := []) rfl ?_
        have hc : okq (cs.getD i 0) := by rw [show cs.getD i 0 = cs[i] by simp [List.getD_eq_getElem?_getD, hi]]; exact hok _ (List.getElem_mem _)
        obtain ⟨cv, e_c⟩ : ∃ z : Int32, z = cs.getD i 0 := ⟨_, rfl⟩
        rw [← e_c] at hc ⊢
        clear e_c
        unfold okq at hc
        have e97 : (97 : Int32).toInt = 97 := rfl
        have e122 : (122 : Int32).toInt = 122 := rfl
        have e65 : (65 : Int32).toInt = 65 := rfl
        have e90 : (90 : Int32).toInt = 90 := rfl
        have e48 : (48 : Int32).toInt = 48 := rfl
        have e57 : (57 : Int32).toInt = 57 := rfl
        have e95 : (95 : Int32).toInt = 95 := rfl
        have e45 : (45 : Int32).toInt = 45 := rfl
        have j108 : Run Z consts_1 false K (fun v h' => h' = h2 ∧ v = none) [] h2 0 0 108 #[.val (.ref x0), .val (.int (Int32.ofNat i)), .val (.int cv), .unset] [] := by
          refine Run.pure hK (seg := [(108, .iconst 1, 1), (109, .goto 4, 3), (113, .istore_n 3, 1), (114, .iload_n 3, 1)]) (by decide +kernel) (pc' := 115) (L' := #[.val (.ref x0), .val (.int (Int32.ofNat i)), .val (.int cv), .val (.int (1 : Int32))]) (S' := [(.int (1 : Int32))]) rfl ?_
          refine Run.ifz hK (cd := .ne) (o := 21) (by decide +kernel) (by decide) (pc' := 136) rfl (fun _ => ?_) (fun q => by replace q := (h_ne _ _).2 q; exact absurd q (by decide))
          refine Run.pure hK (seg := [(136, .iinc 1 1, 3), (139, .goto (-99), 3)]) (by decide +kernel) (pc' := 40) (L' := #[.val (.ref x0), .val (.int ((Int32.ofNat i) + (1 : Int32))), .val (.int cv), .val (.int (1 : Int32))]) (S' := []) rfl ?_
          rw [show Int32.ofNat i + (1 : Int32) = Int32.ofNat (i + 1) from ofN_add (n := i) (m := 1) (by omega)]
          exact ih (i + 1) _ _ (by omega) (Or.inr ⟨_, _, rfl, rfl⟩)
        refine Run.pure hK (seg := [(60, .iload_n 2, 1), (61, .bipush 97, 2)]) (by decide +kernel) (pc' := 63) (L' := #[.val (.ref x0), .val (.int (Int32.ofNat i)), .val (.int cv), .unset]) (S' := [(.int (97 : Int32)), (.int cv)]) rfl ?_
        refine Run.icmp hK (cd := .lt) (o := 9) (by decide +kernel) (by decide) (pc' := 72) rfl (fun ql1 => ?_) (fun ql1 => ?_)
        · replace ql1 := (h_lt _ _).1 ql1
          refine Run.pure hK (seg := [(72, .iload_n 2, 1), (73, .bipush 65, 2)]) (by decide +kernel) (pc' := 75) (L' := #[.val (.ref x0), .val (.int (Int32.ofNat i)), .val (.int cv), .unset]) (S' := [(.int (65 : Int32)), (.int cv)]) rfl ?_
          refine Run.icmp hK (cd := .lt) (o := 9) (by decide +kernel) (by decide) (pc' := 84) rfl (fun ql2 => ?_) (fun ql2 => ?_)
          · replace ql2 := (h_lt _ _).1 ql2
            refine Run.pure hK (seg := [(84, .iload_n 2, 1), (85, .bipush 48, 2)]) (by decide +kernel) (pc' := 87) (L' := #[.val (.ref x0), .val (.int (Int32.ofNat i)), .val (.int cv), .unset]) (S' := [(.int (48 : Int32)), (.int cv)]) rfl ?_
            refine Run.icmp hK (cd := .lt) (o := 9) (by decide +kernel) (by decide) (pc' := 96) rfl (fun ql3 => ?_) (fun ql3 => ?_)
            · replace ql3 := (h_lt _ _).1 ql3
              refine Run.pure hK (seg := [(96, .iload_n 2, 1), (97, .bipush 95, 2)]) (by decide +kernel) (pc' := 99) (L' := #[.val (.ref x0), .val (.int (Int32.ofNat i)), .val (.int cv), .unset]) (S' := [(.int (95 : Int32)), (.int cv)]) rfl ?_
              refine Run.icmp hK (cd := .eq) (o := 9) (by decide +kernel) (by decide) (pc' := 108) rfl (fun q95 => ?_) (fun q95 => ?_)
              · replace q95 := (h_eq _ _).1 q95
                exact j108
              · replace q95 := (h_eq _ _).2 q95
                refine Run.pure hK (seg := [(102, .iload_n 2, 1), (103, .bipush 45, 2)]) (by decide +kernel) (pc' := 105) (L' := #[.val (.ref x0), .val (.int (Int32.ofNat i)), .val (.int cv), .unset]) (S' := [(.int (45 : Int32)), (.int cv)]) rfl ?_
                refine Run.icmp hK (cd := .ne) (o := 7) (by decide +kernel) (by decide) (pc' := 112) rfl (fun q45 => ?_) (fun q45 => ?_)
                · replace q45 := (h_ne _ _).1 q45
                  exfalso; simp only [Int32.lt_iff_toInt_lt, ← Int32.toInt_inj] at *; omega
                · replace q45 := (h_ne _ _).2 q45
                  exact j108
            · replace ql3 := (h_lt _ _).2 ql3
              refine Run.pure hK (seg := [(90, .iload_n 2, 1), (91, .bipush 57, 2)]) (by decide +kernel) (pc' := 93) (L' := #[.val (.ref x0), .val (.int (Int32.ofNat i)), .val (.int cv), .unset]) (S' := [(.int (57 : Int32)), (.int cv)]) rfl ?_
              refine Run.icmp hK (cd := .le) (o := 15) (by decide +kernel) (by decide) (pc' := 108) rfl (fun qh3 => ?_) (fun qh3 => ?_)
              · replace qh3 := (h_le _ _).1 qh3
                exact j108
              · replace qh3 := (h_le _ _).2 qh3
                refine Run.pure hK (seg := [(96, .iload_n 2, 1), (97, .bipush 95, 2)]) (by decide +kernel) (pc' := 99) (L' := #[.val (.ref x0), .val (.int (Int32.ofNat i)), .val (.int cv), .unset]) (S' := [(.int (95 : Int32)), (.int cv)]) rfl ?_
                refine Run.icmp hK (cd := .eq) (o := 9) (by decide +kernel) (by decide) (pc' := 108) rfl (fun q95 => ?_) (fun q95 => ?_)
                · replace q95 := (h_eq _ _).1 q95
                  exact j108
                · replace q95 := (h_eq _ _).2 q95
                  refine Run.pure hK (seg := [(102, .iload_n 2, 1), (103, .bipush 45, 2)]) (by decide +kernel) (pc' := 105) (L' := #[.val (.ref x0), .val (.int (Int32.ofNat i)), .val (.int cv), .unset]) (S' := [(.int (45 : Int32)), (.int cv)]) rfl ?_
                  refine Run.icmp hK (cd := .ne) (o := 7) (by decide +kernel) (by decide) (pc' := 112) rfl (fun q45 => ?_) (fun q45 => ?_)
                  · replace q45 := (h_ne _ _).1 q45
                    exfalso; simp only [Int32.lt_iff_toInt_lt, ← Int32.toInt_inj] at *; omega
                  · replace q45 := (h_ne _ _).2 q45
                    exact j108
          · replace ql2 := (h_lt _ _).2 ql2
            refine Run.pure hK (seg := [(78, .iload_n 2, 1), (79, .bipush 90, 2)]) (by decide +kernel) (pc' := 81) (L' := #[.val (.ref x0), .val (.int (Int32.ofNat i)), .val (.int cv), .unset]) (S' := [(.int (90 : Int32)), (.int cv)]) rfl ?_
            refine Run.icmp hK (cd := .le) (o := 27) (by decide +kernel) (by decide) (pc' := 108) rfl (fun qh2 => ?_) (fun qh2 => ?_)
            · replace qh2 := (h_le _ _).1 qh2
              exact j108
            · replace qh2 := (h_le _ _).2 qh2
              refine Run.pure hK (seg := [(84, .iload_n 2, 1), (85, .bipush 48, 2)]) (by decide +kernel) (pc' := 87) (L' := #[.val (.ref x0), .val (.int (Int32.ofNat i)), .val (.int cv), .unset]) (S' := [(.int (48 : Int32)), (.int cv)]) rfl ?_
              refine Run.icmp hK (cd := .lt) (o := 9) (by decide +kernel) (by decide) (pc' := 96) rfl (fun ql3 => ?_) (fun ql3 => ?_)
              · replace ql3 := (h_lt _ _).1 ql3
                refine Run.pure hK (seg := [(96, .iload_n 2, 1), (97, .bipush 95, 2)]) (by decide +kernel) (pc' := 99) (L' := #[.val (.ref x0), .val (.int (Int32.ofNat i)), .val (.int cv), .unset]) (S' := [(.int (95 : Int32)), (.int cv)]) rfl ?_
                refine Run.icmp hK (cd := .eq) (o := 9) (by decide +kernel) (by decide) (pc' := 108) rfl (fun q95 => ?_) (fun q95 => ?_)
                · replace q95 := (h_eq _ _).1 q95
                  exact j108
                · replace q95 := (h_eq _ _).2 q95
                  refine Run.pure hK (seg := [(102, .iload_n 2, 1), (103, .bipush 45, 2)]) (by decide +kernel) (pc' := 105) (L' := #[.val (.ref x0), .val (.int (Int32.ofNat i)), .val (.int cv), .unset]) (S' := [(.int (45 : Int32)), (.int cv)]) rfl ?_
                  refine Run.icmp hK (cd := .ne) (o := 7) (by decide +kernel) (by decide) (pc' := 112) rfl (fun q45 => ?_) (fun q45 => ?_)
                  · replace q45 := (h_ne _ _).1 q45
                    exfalso; simp only [Int32.lt_iff_toInt_lt, ← Int32.toInt_inj] at *; omega
                  · replace q45 := (h_ne _ _).2 q45
                    exact j108
              · replace ql3 := (h_lt _ _).2 ql3
                refine Run.pure hK (seg := [(90, .iload_n 2, 1), (91, .bipush 57, 2)]) (by decide +kernel) (pc' := 93) (L' := #[.val (.ref x0), .val (.int (Int32.ofNat i)), .val (.int cv), .unset]) (S' := [(.int (57 : Int32)), (.int cv)]) rfl ?_
                refine Run.icmp hK (cd := .le) (o := 15) (by decide +kernel) (by decide) (pc' := 108) rfl (fun qh3 => ?_) (fun qh3 => ?_)
                · replace qh3 := (h_le _ _).1 qh3
                  exact j108
                · replace qh3 := (h_le _ _).2 qh3
                  refine Run.pure hK (seg := [(96, .iload_n 2, 1), (97, .bipush 95, 2)]) (by decide +kernel) (pc' := 99) (L' := #[.val (.ref x0), .val (.int (Int32.ofNat i)), .val (.int cv), .unset]) (S' := [(.int (95 : Int32)), (.int cv)]) rfl ?_
                  refine Run.icmp hK (cd := .eq) (o := 9) (by decide +kernel) (by decide) (pc' := 108) rfl (fun q95 => ?_) (fun q95 => ?_)
                  · replace q95 := (h_eq _ _).1 q95
                    exact j108
                  · replace q95 := (h_eq _ _).2 q95
                    refine Run.pure hK (seg := [(102, .iload_n 2, 1), (103, .bipush 45, 2)]) (by decide +kernel) (pc' := 105) (L' := #[.val (.ref x0), .val (.int (Int32.ofNat i)), .val (.int cv), .unset]) (S' := [(.int (45 : Int32)), (.int cv)]) rfl ?_
                    refine Run.icmp hK (cd := .ne) (o := 7) (by decide +kernel) (by decide) (pc' := 112) rfl (fun q45 => ?_) (fun q45 => ?_)
                    · replace q45 := (h_ne _ _).1 q45
                      exfalso; simp only [Int32.lt_iff_toInt_lt, ← Int32.toInt_inj] at *; omega
                    · replace q45 := (h_ne _ _).2 q45
                      exact j108
        · replace ql1 := (h_lt _ _).2 ql1
          refine Run.pure hK (seg := [(66, .iload_n 2, 1), (67, .bipush 122, 2)]) (by decide +kernel) (pc' := 69) (L' := #[.val (.ref x0), .val (.int (Int32.ofNat i)), .val (.int cv), .unset]) (S' := [(.int (122 : Int32)), (.int cv)]) rfl ?_
          refine Run.icmp hK (cd := .le) (o := 39) (by decide +kernel) (by decide) (pc' := 108) rfl (fun qh1 => ?_) (fun qh1 => ?_)
          · replace qh1 := (h_le _ _).1 qh1
            exact j108
          · replace qh1 := (h_le _ _).2 qh1
            refine Run.pure hK (seg := [(72, .iload_n 2, 1), (73, .bipush 65, 2)]) (by decide +kernel) (pc' := 75) (L' := #[.val (.ref x0), .val (.int (Int32.ofNat i)), .val (.int cv), .unset]) (S' := [(.int (65 : Int32)), (.int cv)]) rfl ?_
            refine Run.icmp hK (cd := .lt) (o := 9) (by decide +kernel) (by decide) (pc' := 84) rfl (fun ql2 => ?_) (fun ql2 => ?_)
            · replace ql2 := (h_lt _ _).1 ql2
              refine Run.pure hK (seg := [(84, .iload_n 2, 1), (85, .bipush 48, 2)]) (by decide +kernel) (pc' := 87) (L' := #[.val (.ref x0), .val (.int (Int32.ofNat i)), .val (.int cv), .unset]) (S' := [(.int (48 : Int32)), (.int cv)]) rfl ?_
              refine Run.icmp hK (cd := .lt) (o := 9) (by decide +kernel) (by decide) (pc' := 96) rfl (fun ql3 => ?_) (fun ql3 => ?_)
              · replace ql3 := (h_lt _ _).1 ql3
                refine Run.pure hK (seg := [(96, .iload_n 2, 1), (97, .bipush 95, 2)]) (by decide +kernel) (pc' := 99) (L' := #[.val (.ref x0), .val (.int (Int32.ofNat i)), .val (.int cv), .unset]) (S' := [(.int (95 : Int32)), (.int cv)]) rfl ?_
                refine Run.icmp hK (cd := .eq) (o := 9) (by decide +kernel) (by decide) (pc' := 108) rfl (fun q95 => ?_) (fun q95 => ?_)
                · replace q95 := (h_eq _ _).1 q95
                  exact j108
                · replace q95 := (h_eq _ _).2 q95
                  refine Run.pure hK (seg := [(102, .iload_n 2, 1), (103, .bipush 45, 2)]) (by decide +kernel) (pc' := 105) (L' := #[.val (.ref x0), .val (.int (Int32.ofNat i)), .val (.int cv), .unset]) (S' := [(.int (45 : Int32)), (.int cv)]) rfl ?_
                  refine Run.icmp hK (cd := .ne) (o := 7) (by decide +kernel) (by decide) (pc' := 112) rfl (fun q45 => ?_) (fun q45 => ?_)
                  · replace q45 := (h_ne _ _).1 q45
                    exfalso; simp only [Int32.lt_iff_toInt_lt, ← Int32.toInt_inj] at *; omega
                  · replace q45 := (h_ne _ _).2 q45
                    exact j108
              · replace ql3 := (h_lt _ _).2 ql3
                refine Run.pure hK (seg := [(90, .iload_n 2, 1), (91, .bipush 57, 2)]) (by decide +kernel) (pc' := 93) (L' := #[.val (.ref x0), .val (.int (Int32.ofNat i)), .val (.int cv), .unset]) (S' := [(.int (57 : Int32)), (.int cv)]) rfl ?_
                refine Run.icmp hK (cd := .le) (o := 15) (by decide +kernel) (by decide) (pc' := 108) rfl (fun qh3 => ?_) (fun qh3 => ?_)
                · replace qh3 := (h_le _ _).1 qh3
                  exact j108
                · replace qh3 := (h_le _ _).2 qh3
                  refine Run.pure hK (seg := [(96, .iload_n 2, 1), (97, .bipush 95, 2)]) (by decide +kernel) (pc' := 99) (L' := #[.val (.ref x0), .val (.int (Int32.ofNat i)), .val (.int cv), .unset]) (S' := [(.int (95 : Int32)), (.int cv)]) rfl ?_
                  refine Run.icmp hK (cd := .eq) (o := 9) (by decide +kernel) (by decide) (pc' := 108) rfl (fun q95 => ?_) (fun q95 => ?_)
                  · replace q95 := (h_eq _ _).1 q95
                    exact j108
                  · replace q95 := (h_eq _ _).2 q95
                    refine Run.pure hK (seg := [(102, .iload_n 2, 1), (103, .bipush 45, 2)]) (by decide +kernel) (pc' := 105) (L' := #[.val (.ref x0), .val (.int (Int32.ofNat i)), .val (.int cv), .unset]) (S' := [(.int (45 : Int32)), (.int cv)]) rfl ?_
                    refine Run.icmp hK (cd := .ne) (o := 7) (by decide +kernel) (by decide) (pc' := 112) rfl (fun q45 => ?_) (fun q45 => ?_)
                    · replace q45 := (h_ne _ _).1 q45
                      exfalso; simp only [Int32.lt_iff_toInt_lt, ← Int32.toInt_inj] at *; omega
                    · replace q45 := (h_ne _ _).2 q45
                      exact j108
            · replace ql2 := (h_lt _ _).2 ql2
              refine Run.pure hK (seg := [(78, .iload_n 2, 1), (79, .bipush 90, 2)]) (by decide +kernel) (pc' := 81) (L' := #[.val (.ref x0), .val (.int (Int32.ofNat i)), .val (.int cv), .unset]) (S' := [(.int (90 : Int32)), (.int cv)]) rfl ?_
              refine Run.icmp hK (cd := .le) (o := 27) (by decide +kernel) (by decide) (pc' := 108) rfl (fun qh2 => ?_) (fun qh2 => ?_)
              · replace qh2 := (h_le _ _).1 qh2
                exact j108
              · replace qh2 := (h_le _ _).2 qh2
                refine Run.pure hK (seg := [(84, .iload_n 2, 1), (85, .bipush 48, 2)]) (by decide +kernel) (pc' := 87) (L' := #[.val (.ref x0), .val (.int (Int32.ofNat i)), .val (.int cv), .unset]) (S' := [(.int (48 : Int32)), (.int cv)]) rfl ?_
                refine Run.icmp hK (cd := .lt) (o := 9) (by decide +kernel) (by decide) (pc' := 96) rfl (fun ql3 => ?_) (fun ql3 => ?_)
                · replace ql3 := (h_lt _ _).1 ql3
                  refine Run.pure hK (seg := [(96, .iload_n 2, 1), (97, .bipush 95, 2)]) (by decide +kernel) (pc' := 99) (L' := #[.val (.ref x0), .val (.int (Int32.ofNat i)), .val (.int cv), .unset]) (S' := [(.int (95 : Int32)), (.int cv)]) rfl ?_
                  refine Run.icmp hK (cd := .eq) (o := 9) (by decide +kernel) (by decide) (pc' := 108) rfl (fun q95 => ?_) (fun q95 => ?_)
                  · replace q95 := (h_eq _ _).1 q95
                    exact j108
                  · replace q95 := (h_eq _ _).2 q95
                    refine Run.pure hK (seg := [(102, .iload_n 2, 1), (103, .bipush 45, 2)]) (by decide +kernel) (pc' := 105) (L' := #[.val (.ref x0), .val (.int (Int32.ofNat i)), .val (.int cv), .unset]) (S' := [(.int (45 : Int32)), (.int cv)]) rfl ?_
                    refine Run.icmp hK (cd := .ne) (o := 7) (by decide +kernel) (by decide) (pc' := 112) rfl (fun q45 => ?_) (fun q45 => ?_)
                    · replace q45 := (h_ne _ _).1 q45
                      exfalso; simp only [Int32.lt_iff_toInt_lt, ← Int32.toInt_inj] at *; omega
                    · replace q45 := (h_ne _ _).2 q45
                      exact j108
                · replace ql3 := (h_lt _ _).2 ql3
                  refine Run.pure hK (seg := [(90, .iload_n 2, 1), (91, .bipush 57, 2)]) (by decide +kernel) (pc' := 93) (L' := #[.val (.ref x0), .val (.int (Int32.ofNat i)), .val (.int cv), .unset]) (S' := [(.int (57 : Int32)), (.int cv)]) rfl ?_
                  refine Run.icmp hK (cd := .le) (o := 15) (by decide +kernel) (by decide) (pc' := 108) rfl (fun qh3 => ?_) (fun qh3 => ?_)
                  · replace qh3 := (h_le _ _).1 qh3
                    exact j108
                  · replace qh3 := (h_le _ _).2 qh3
                    refine Run.pure hK (seg := [(96, .iload_n 2, 1), (97, .bipush 95, 2)]) (by decide +kernel) (pc' := 99) (L' := #[.val (.ref x0), .val (.int (Int32.ofNat i)), .val (.int cv), .unset]) (S' := [(.int (95 : Int32)), (.int cv)]) rfl ?_
                    refine Run.icmp hK (cd := .eq) (o := 9) (by decide +kernel) (by decide) (pc' := 108) rfl (fun q95 => ?_) (fun q95 => ?_)
                    · replace q95 := (h_eq _ _).1 q95
                      exact j108
                    · replace q95 := (h_eq _ _).2 q95
                      refine Run.pure hK (seg := [(102, .iload_n 2, 1), (103, .bipush 45, 2)]) (by decide +kernel) (pc' := 105) (L' := #[.val (.ref x0), .val (.int (Int32.ofNat i)), .val (.int cv), .unset]) (S' := [(.int (45 : Int32)), (.int cv)]) rfl ?_
                      refine Run.icmp hK (cd := .ne) (o := 7) (by decide +kernel) (by decide) (pc' := 112) rfl (fun q45 => ?_) (fun q45 => ?_)
                      · replace q45 := (h_ne _ _).1 q45
                        exfalso; simp only [Int32.lt_iff_toInt_lt, ← Int32.toInt_inj] at *; omega
                      · replace q45 := (h_ne _ _).2 q45
                        exact j108
      · refine Run.pure hK (seg := [(40, .iload_n 1, 1), (41, .aload_n 0, 1)]) (by decide +kernel) (pc' := 42) (L' := #[.val (.ref x0), .val (.int (Int32.ofNat i)), .val (.int y), .val (.int z)]) (S' := [(.ref x0), (.int (Int32.ofNat i))]) rfl ?_
        refine Run.getf hK (index := 24) (host := "") (Or.inl (hw _ (List.mem_of_getElem? (i := 51) rfl))) Via.refl V5 (by decide +kernel) ?_
        refine Run.virtual hK (index := 91) (y := (⟨"java/lang/String", "length", "()I"⟩ : MethodName)) (z := (⟨"java/lang/String", "length", "()I"⟩ : MethodName)) (C := "java/lang/String") (Wt := 1) (kc := 0) (ks := 0) (hw _ (List.mem_of_getElem? (i := 57) rfl)) (hw _ (List.mem_of_getElem? (i := 58) rfl)) (nfS (hw _ (List.mem_of_getElem? (i := 60) rfl))) (hw _ (List.mem_of_getElem? (i := 60) rfl)) (hw _ (List.mem_of_getElem? (i := 59) rfl)) (by decide) (a := s0) F.1 (fun _ q => q) (cal_len (cs := cs) (g_lenW hw) (hw _ (List.mem_of_getElem? (i := 9) rfl)) F O2 P5 (by decide) (by decide)) rfl (argsL := []) (rest := [(.int (Int32.ofNat i))]) (lenOf pd_len rfl) rfl (Nat.le_of_ble_eq_true rfl) (by decide +kernel) (by decide) (by decide) (fun v1 h1 q1 n1 => ?_)
        obtain ⟨rfl, rfl⟩ := q1
        have hi : i < cs.length := by omega
        refine Run.icmp hK (cd := .ge) (o := 94) (by decide +kernel) (by decide) (pc' := 142) rfl (fun q => by replace q := (h_ge _ _).1 q; exact absurd (show Int32.ofNat i < Int32.ofNat cs.length by rw [Int32.lt_iff_toInt_lt, ofN (by omega), ofN (by omega)]; omega) q) (fun _ => ?_)
        refine Run.pure hK (seg := [(51, .aload_n 0, 1)]) (by decide +kernel) (pc' := 52) (L' := #[.val (.ref x0), .val (.int (Int32.ofNat i)), .val (.int y), .val (.int z)]) (S' := [(.ref x0)]) rfl ?_
        refine Run.getf hK (index := 24) (host := "") (Or.inl (hw _ (List.mem_of_getElem? (i := 51) rfl))) Via.refl V5 (by decide +kernel) ?_
        refine Run.pure hK (seg := [(55, .iload_n 1, 1)]) (by decide +kernel) (pc' := 56) (L' := #[.val (.ref x0), .val (.int (Int32.ofNat i)), .val (.int y), .val (.int z)]) (S' := [(.int (Int32.ofNat i)), (.ref s0)]) rfl ?_
        refine Run.virtual hK (index := 94) (y := (⟨"java/lang/String", "charAt", "(I)C"⟩ : MethodName)) (z := (⟨"java/lang/String", "charAt", "(I)C"⟩ : MethodName)) (C := "java/lang/String") (Wt := 0) (kc := 0) (ks := 0) (hw _ (List.mem_of_getElem? (i := 67) rfl)) (hw _ (List.mem_of_getElem? (i := 68) rfl)) (nfS (hw _ (List.mem_of_getElem? (i := 70) rfl))) (hw _ (List.mem_of_getElem? (i := 70) rfl)) (hw _ (List.mem_of_getElem? (i := 69) rfl)) (by decide) (a := s0) F.1 (fun _ q => q) (cal_chr (cs := cs) (g_chN hw) (hw _ (List.mem_of_getElem? (i := 9) rfl)) F O2 P5 O4.1 O4.2 (i := i) hi rfl (by decide) (by decide)) rfl (argsL := [(.int (Int32.ofNat i))]) (rest := []) (lenOf pd_ch rfl) rfl (Nat.le_of_ble_eq_true rfl) (by decide +kernel) (by decide) (by decide) (fun v2 h2 q2 n2 => ?_)
        obtain ⟨rfl, rfl⟩ := q2
        refine Run.pure hK (seg := [(59, .istore_n 2, 1)]) (by decide +kernel) (pc' := 60) (L' := #[.val (.ref x0), .val (.int (Int32.ofNat i)), .val (.int (cs.getD i 0)), .val (.int z)]) (S' := []) rfl ?_
        have hc : okq (cs.getD i 0) := by rw [show cs.getD i 0 = cs[i] by simp [List.getD_eq_getElem?_getD, hi]]; exact hok _ (List.getElem_mem _)
        obtain ⟨cv, e_c⟩ : ∃ z : Int32, z = cs.getD i 0 := ⟨_, rfl⟩
        rw [← e_c] at hc ⊢
        clear e_c
        unfold okq at hc
        have e97 : (97 : Int32).toInt = 97 := rfl
        have e122 : (122 : Int32).toInt = 122 := rfl
        have e65 : (65 : Int32).toInt = 65 := rfl
        have e90 : (90 : Int32).toInt = 90 := rfl
        have e48 : (48 : Int32).toInt = 48 := rfl
        have e57 : (57 : Int32).toInt = 57 := rfl
        have e95 : (95 : Int32).toInt = 95 := rfl
        have e45 : (45 : Int32).toInt = 45 := rfl
        have j108 : Run Z consts_1 false K (fun v h' => h' = h2 ∧ v = none) [] h2 0 0 108 #[.val (.ref x0), .val (.int (Int32.ofNat i)), .val (.int cv), .val (.int z)] [] := by
          refine Run.pure hK (seg := [(108, .iconst 1, 1), (109, .goto 4, 3), (113, .istore_n 3, 1), (114, .iload_n 3, 1)]) (by decide +kernel) (pc' := 115) (L' := #[.val (.ref x0), .val (.int (Int32.ofNat i)), .val (.int cv), .val (.int (1 : Int32))]) (S' := [(.int (1 : Int32))]) rfl ?_
          refine Run.ifz hK (cd := .ne) (o := 21) (by decide +kernel) (by decide) (pc' := 136) rfl (fun _ => ?_) (fun q => by replace q := (h_ne _ _).2 q; exact absurd q (by decide))
          refine Run.pure hK (seg := [(136, .iinc 1 1, 3), (139, .goto (-99), 3)]) (by decide +kernel) (pc' := 40) (L' := #[.val (.ref x0), .val (.int ((Int32.ofNat i) + (1 : Int32))), .val (.int cv), .val (.int (1 : Int32))]) (S' := []) rfl ?_
          rw [show Int32.ofNat i + (1 : Int32) = Int32.ofNat (i + 1) from ofN_add (n := i) (m := 1) (by omega)]
          exact ih (i + 1) _ _ (by omega) (Or.inr ⟨_, _, rfl, rfl⟩)
        refine Run.pure hK (seg := [(60, .iload_n 2, 1), (61, .bipush 97, 2)]) (by decide +kernel) (pc' := 63) (L' := #[.val (.ref x0), .val (.int (Int32.ofNat i)), .val (.int cv), .val (.int z)]) (S' := [(.int (97 : Int32)), (.int cv)]) rfl ?_
        refine Run.icmp hK (cd := .lt) (o := 9) (by decide +kernel) (by decide) (pc' := 72) rfl (fun ql1 => ?_) (fun ql1 => ?_)
        · replace ql1 := (h_lt _ _).1 ql1
          refine Run.pure hK (seg := [(72, .iload_n 2, 1), (73, .bipush 65, 2)]) (by decide +kernel) (pc' := 75) (L' := #[.val (.ref x0), .val (.int (Int32.ofNat i)), .val (.int cv), .val (.int z)]) (S' := [(.int (65 : Int32)), (.int cv)]) rfl ?_
          refine Run.icmp hK (cd := .lt) (o := 9) (by decide +kernel) (by decide) (pc' := 84) rfl (fun ql2 => ?_) (fun ql2 => ?_)
          · replace ql2 := (h_lt _ _).1 ql2
            refine Run.pure hK (seg := [(84, .iload_n 2, 1), (85, .bipush 48, 2)]) (by decide +kernel) (pc' := 87) (L' := #[.val (.ref x0), .val (.int (Int32.ofNat i)), .val (.int cv), .val (.int z)]) (S' := [(.int (48 : Int32)), (.int cv)]) rfl ?_
            refine Run.icmp hK (cd := .lt) (o := 9) (by decide +kernel) (by decide) (pc' := 96) rfl (fun ql3 => ?_) (fun ql3 => ?_)
            · replace ql3 := (h_lt _ _).1 ql3
              refine Run.pure hK (seg := [(96, .iload_n 2, 1), (97, .bipush 95, 2)]) (by decide +kernel) (pc' := 99) (L' := #[.val (.ref x0), .val (.int (Int32.ofNat i)), .val (.int cv), .val (.int z)]) (S' := [(.int (95 : Int32)), (.int cv)]) rfl ?_
              refine Run.icmp hK (cd := .eq) (o := 9) (by decide +kernel) (by decide) (pc' := 108) rfl (fun q95 => ?_) (fun q95 => ?_)
              · replace q95 := (h_eq _ _).1 q95
                exact j108
              · replace q95 := (h_eq _ _).2 q95
                refine Run.pure hK (seg := [(102, .iload_n 2, 1), (103, .bipush 45, 2)]) (by decide +kernel) (pc' := 105) (L' := #[.val (.ref x0), .val (.int (Int32.ofNat i)), .val (.int cv), .val (.int z)]) (S' := [(.int (45 : Int32)), (.int cv)]) rfl ?_
                refine Run.icmp hK (cd := .ne) (o := 7) (by decide +kernel) (by decide) (pc' := 112) rfl (fun q45 => ?_) (fun q45 => ?_)
                · replace q45 := (h_ne _ _).1 q45
                  exfalso; simp only [Int32.lt_iff_toInt_lt, ← Int32.toInt_inj] at *; omega
                · replace q45 := (h_ne _ _).2 q45
                  exact j108
            · replace ql3 := (h_lt _ _).2 ql3
              refine Run.pure hK (seg := [(90, .iload_n 2, 1), (91, .bipush 57, 2)]) (by decide +kernel) (pc' := 93) (L' := #[.val (.ref x0), .val (.int (Int32.ofNat i)), .val (.int cv), .val (.int z)]) (S' := [(.int (57 : Int32)), (.int cv)]) rfl ?_
              refine Run.icmp hK (cd := .le) (o := 15) (by decide +kernel) (by decide) (pc' := 108) rfl (fun qh3 => ?_) (fun qh3 => ?_)
              · replace qh3 := (h_le _ _).1 qh3
                exact j108
              · replace qh3 := (h_le _ _).2 qh3
                refine Run.pure hK (seg := [(96, .iload_n 2, 1), (97, .bipush 95, 2)]) (by decide +kernel) (pc' := 99) (L' := #[.val (.ref x0), .val (.int (Int32.ofNat i)), .val (.int cv), .val (.int z)]) (S' := [(.int (95 : Int32)), (.int cv)]) rfl ?_
                refine Run.icmp hK (cd := .eq) (o := 9) (by decide +kernel) (by decide) (pc' := 108) rfl (fun q95 => ?_) (fun q95 => ?_)
                · replace q95 := (h_eq _ _).1 q95
                  exact j108
                · replace q95 := (h_eq _ _).2 q95
                  refine Run.pure hK (seg := [(102, .iload_n 2, 1), (103, .bipush 45, 2)]) (by decide +kernel) (pc' := 105) (L' := #[.val (.ref x0), .val (.int (Int32.ofNat i)), .val (.int cv), .val (.int z)]) (S' := [(.int (45 : Int32)), (.int cv)]) rfl ?_
                  refine Run.icmp hK (cd := .ne) (o := 7) (by decide +kernel) (by decide) (pc' := 112) rfl (fun q45 => ?_) (fun q45 => ?_)
                  · replace q45 := (h_ne _ _).1 q45
                    exfalso; simp only [Int32.lt_iff_toInt_lt, ← Int32.toInt_inj] at *; omega
                  · replace q45 := (h_ne _ _).2 q45
                    exact j108
          · replace ql2 := (h_lt _ _).2 ql2
            refine Run.pure hK (seg := [(78, .iload_n 2, 1), (79, .bipush 90, 2)]) (by decide +kernel) (pc' := 81) (L' := #[.val (.ref x0), .val (.int (Int32.ofNat i)), .val (.int cv), .val (.int z)]) (S' := [(.int (90 : Int32)), (.int cv)]) rfl ?_
            refine Run.icmp hK (cd := .le) (o := 27) (by decide +kernel) (by decide) (pc' := 108) rfl (fun qh2 => ?_) (fun qh2 => ?_)
            · replace qh2 := (h_le _ _).1 qh2
              exact j108
            · replace qh2 := (h_le _ _).2 qh2
              refine Run.pure hK (seg := [(84, .iload_n 2, 1), (85, .bipush 48, 2)]) (by decide +kernel) (pc' := 87) (L' := #[.val (.ref x0), .val (.int (Int32.ofNat i)), .val (.int cv), .val (.int z)]) (S' := [(.int (48 : Int32)), (.int cv)]) rfl ?_
              refine Run.icmp hK (cd := .lt) (o := 9) (by decide +kernel) (by decide) (pc' := 96) rfl (fun ql3 => ?_) (fun ql3 => ?_)
              · replace ql3 := (h_lt _ _).1 ql3
                refine Run.pure hK (seg := [(96, .iload_n 2, 1), (97, .bipush 95, 2)]) (by decide +kernel) (pc' := 99) (L' := #[.val (.ref x0), .val (.int (Int32.ofNat i)), .val (.int cv), .val (.int z)]) (S' := [(.int (95 : Int32)), (.int cv)]) rfl ?_
                refine Run.icmp hK (cd := .eq) (o := 9) (by decide +kernel) (by decide) (pc' := 108) rfl (fun q95 => ?_) (fun q95 => ?_)
                · replace q95 := (h_eq _ _).1 q95
                  exact j108
                · replace q95 := (h_eq _ _).2 q95
                  refine Run.pure hK (seg := [(102, .iload_n 2, 1), (103, .bipush 45, 2)]) (by decide +kernel) (pc' := 105) (L' := #[.val (.ref x0), .val (.int (Int32.ofNat i)), .val (.int cv), .val (.int z)]) (S' := [(.int (45 : Int32)), (.int cv)]) rfl ?_
                  refine Run.icmp hK (cd := .ne) (o := 7) (by decide +kernel) (by decide) (pc' := 112) rfl (fun q45 => ?_) (fun q45 => ?_)
                  · replace q45 := (h_ne _ _).1 q45
                    exfalso; simp only [Int32.lt_iff_toInt_lt, ← Int32.toInt_inj] at *; omega
                  · replace q45 := (h_ne _ _).2 q45
                    exact j108
              · replace ql3 := (h_lt _ _).2 ql3
                refine Run.pure hK (seg := [(90, .iload_n 2, 1), (91, .bipush 57, 2)]) (by decide +kernel) (pc' := 93) (L' := #[.val (.ref x0), .val (.int (Int32.ofNat i)), .val (.int cv), .val (.int z)]) (S' := [(.int (57 : Int32)), (.int cv)]) rfl ?_
                refine Run.icmp hK (cd := .le) (o := 15) (by decide +kernel) (by decide) (pc' := 108) rfl (fun qh3 => ?_) (fun qh3 => ?_)
                · replace qh3 := (h_le _ _).1 qh3
                  exact j108
                · replace qh3 := (h_le _ _).2 qh3
                  refine Run.pure hK (seg := [(96, .iload_n 2, 1), (97, .bipush 95, 2)]) (by decide +kernel) (pc' := 99) (L' := #[.val (.ref x0), .val (.int (Int32.ofNat i)), .val (.int cv), .val (.int z)]) (S' := [(.int (95 : Int32)), (.int cv)]) rfl ?_
                  refine Run.icmp hK (cd := .eq) (o := 9) (by decide +kernel) (by decide) (pc' := 108) rfl (fun q95 => ?_) (fun q95 => ?_)
                  · replace q95 := (h_eq _ _).1 q95
                    exact j108
                  · replace q95 := (h_eq _ _).2 q95
                    refine Run.pure hK (seg := [(102, .iload_n 2, 1), (103, .bipush 45, 2)]) (by decide +kernel) (pc' := 105) (L' := #[.val (.ref x0), .val (.int (Int32.ofNat i)), .val (.int cv), .val (.int z)]) (S' := [(.int (45 : Int32)), (.int cv)]) rfl ?_
                    refine Run.icmp hK (cd := .ne) (o := 7) (by decide +kernel) (by decide) (pc' := 112) rfl (fun q45 => ?_) (fun q45 => ?_)
                    · replace q45 := (h_ne _ _).1 q45
                      exfalso; simp only [Int32.lt_iff_toInt_lt, ← Int32.toInt_inj] at *; omega
                    · replace q45 := (h_ne _ _).2 q45
                      exact j108
        · replace ql1 := (h_lt _ _).2 ql1
          refine Run.pure hK (seg := [(66, .iload_n 2, 1), (67, .bipush 122, 2)]) (by decide +kernel) (pc' := 69) (L' := #[.val (.ref x0), .val (.int (Int32.ofNat i)), .val (.int cv), .val (.int z)]) (S' := [(.int (122 : Int32)), (.int cv)]) rfl ?_
          refine Run.icmp hK (cd := .le) (o := 39) (by decide +kernel) (by decide) (pc' := 108) rfl (fun qh1 => ?_) (fun qh1 => ?_)
          · replace qh1 := (h_le _ _).1 qh1
            exact j108
          · replace qh1 := (h_le _ _).2 qh1
            refine Run.pure hK (seg := [(72, .iload_n 2, 1), (73, .bipush 65, 2)]) (by decide +kernel) (pc' := 75) (L' := #[.val (.ref x0), .val (.int (Int32.ofNat i)), .val (.int cv), .val (.int z)]) (S' := [(.int (65 : Int32)), (.int cv)]) rfl ?_
            refine Run.icmp hK (cd := .lt) (o := 9) (by decide +kernel) (by decide) (pc' := 84) rfl (fun ql2 => ?_) (fun ql2 => ?_)
            · replace ql2 := (h_lt _ _).1 ql2
              refine Run.pure hK (seg := [(84, .iload_n 2, 1), (85, .bipush 48, 2)]) (by decide +kernel) (pc' := 87) (L' := #[.val (.ref x0), .val (.int (Int32.ofNat i)), .val (.int cv), .val (.int z)]) (S' := [(.int (48 : Int32)), (.int cv)]) rfl ?_
              refine Run.icmp hK (cd := .lt) (o := 9) (by decide +kernel) (by decide) (pc' := 96) rfl (fun ql3 => ?_) (fun ql3 => ?_)
              · replace ql3 := (h_lt _ _).1 ql3
                refine Run.pure hK (seg := [(96, .iload_n 2, 1), (97, .bipush 95, 2)]) (by decide +kernel) (pc' := 99) (L' := #[.val (.ref x0), .val (.int (Int32.ofNat i)), .val (.int cv), .val (.int z)]) (S' := [(.int (95 : Int32)), (.int cv)]) rfl ?_
                refine Run.icmp hK (cd := .eq) (o := 9) (by decide +kernel) (by decide) (pc' := 108) rfl (fun q95 => ?_) (fun q95 => ?_)
                · replace q95 := (h_eq _ _).1 q95
                  exact j108
                · replace q95 := (h_eq _ _).2 q95
                  refine Run.pure hK (seg := [(102, .iload_n 2, 1), (103, .bipush 45, 2)]) (by decide +kernel) (pc' := 105) (L' := #[.val (.ref x0), .val (.int (Int32.ofNat i)), .val (.int cv), .val (.int z)]) (S' := [(.int (45 : Int32)), (.int cv)]) rfl ?_
                  refine Run.icmp hK (cd := .ne) (o := 7) (by decide +kernel) (by decide) (pc' := 112) rfl (fun q45 => ?_) (fun q45 => ?_)
                  · replace q45 := (h_ne _ _).1 q45
                    exfalso; simp only [Int32.lt_iff_toInt_lt, ← Int32.toInt_inj] at *; omega
                  · replace q45 := (h_ne _ _).2 q45
                    exact j108
              · replace ql3 := (h_lt _ _).2 ql3
                refine Run.pure hK (seg := [(90, .iload_n 2, 1), (91, .bipush 57, 2)]) (by decide +kernel) (pc' := 93) (L' := #[.val (.ref x0), .val (.int (Int32.ofNat i)), .val (.int cv), .val (.int z)]) (S' := [(.int (57 : Int32)), (.int cv)]) rfl ?_
                refine Run.icmp hK (cd := .le) (o := 15) (by decide +kernel) (by decide) (pc' := 108) rfl (fun qh3 => ?_) (fun qh3 => ?_)
                · replace qh3 := (h_le _ _).1 qh3
                  exact j108
                · replace qh3 := (h_le _ _).2 qh3
                  refine Run.pure hK (seg := [(96, .iload_n 2, 1), (97, .bipush 95, 2)]) (by decide +kernel) (pc' := 99) (L' := #[.val (.ref x0), .val (.int (Int32.ofNat i)), .val (.int cv), .val (.int z)]) (S' := [(.int (95 : Int32)), (.int cv)]) rfl ?_
                  refine Run.icmp hK (cd := .eq) (o := 9) (by decide +kernel) (by decide) (pc' := 108) rfl (fun q95 => ?_) (fun q95 => ?_)
                  · replace q95 := (h_eq _ _).1 q95
                    exact j108
                  · replace q95 := (h_eq _ _).2 q95
                    refine Run.pure hK (seg := [(102, .iload_n 2, 1), (103, .bipush 45, 2)]) (by decide +kernel) (pc' := 105) (L' := #[.val (.ref x0), .val (.int (Int32.ofNat i)), .val (.int cv), .val (.int z)]) (S' := [(.int (45 : Int32)), (.int cv)]) rfl ?_
                    refine Run.icmp hK (cd := .ne) (o := 7) (by decide +kernel) (by decide) (pc' := 112) rfl (fun q45 => ?_) (fun q45 => ?_)
                    · replace q45 := (h_ne _ _).1 q45
                      exfalso; simp only [Int32.lt_iff_toInt_lt, ← Int32.toInt_inj] at *; omega
                    · replace q45 := (h_ne _ _).2 q45
                      exact j108
            · replace ql2 := (h_lt _ _).2 ql2
              refine Run.pure hK (seg := [(78, .iload_n 2, 1), (79, .bipush 90, 2)]) (by decide +kernel) (pc' := 81) (L' := #[.val (.ref x0), .val (.int (Int32.ofNat i)), .val (.int cv), .val (.int z)]) (S' := [(.int (90 : Int32)), (.int cv)]) rfl ?_
              refine Run.icmp hK (cd := .le) (o := 27) (by decide +kernel) (by decide) (pc' := 108) rfl (fun qh2 => ?_) (fun qh2 => ?_)
              · replace qh2 := (h_le _ _).1 qh2
                exact j108
              · replace qh2 := (h_le _ _).2 qh2
                refine Run.pure hK (seg := [(84, .iload_n 2, 1), (85, .bipush 48, 2)]) (by decide +kernel) (pc' := 87) (L' := #[.val (.ref x0), .val (.int (Int32.ofNat i)), .val (.int cv), .val (.int z)]) (S' := [(.int (48 : Int32)), (.int cv)]) rfl ?_
                refine Run.icmp hK (cd := .lt) (o := 9) (by decide +kernel) (by decide) (pc' := 96) rfl (fun ql3 => ?_) (fun ql3 => ?_)
                · replace ql3 := (h_lt _ _).1 ql3
                  refine Run.pure hK (seg := [(96, .iload_n 2, 1), (97, .bipush 95, 2)]) (by decide +kernel) (pc' := 99) (L' := #[.val (.ref x0), .val (.int (Int32.ofNat i)), .val (.int cv), .val (.int z)]) (S' := [(.int (95 : Int32)), (.int cv)]) rfl ?_
                  refine Run.icmp hK (cd := .eq) (o := 9) (by decide +kernel) (by decide) (pc' := 108) rfl (fun q95 => ?_) (fun q95 => ?_)
                  · replace q95 := (h_eq _ _).1 q95
                    exact j108
                  · replace q95 := (h_eq _ _).2 q95
                    refine Run.pure hK (seg := [(102, .iload_n 2, 1), (103, .bipush 45, 2)]) (by decide +kernel) (pc' := 105) (L' := #[.val (.ref x0), .val (.int (Int32.ofNat i)), .val (.int cv), .val (.int z)]) (S' := [(.int (45 : Int32)), (.int cv)]) rfl ?_
                    refine Run.icmp hK (cd := .ne) (o := 7) (by decide +kernel) (by decide) (pc' := 112) rfl (fun q45 => ?_) (fun q45 => ?_)
                    · replace q45 := (h_ne _ _).1 q45
                      exfalso; simp only [Int32.lt_iff_toInt_lt, ← Int32.toInt_inj] at *; omega
                    · replace q45 := (h_ne _ _).2 q45
                      exact j108
                · replace ql3 := (h_lt _ _).2 ql3
                  refine Run.pure hK (seg := [(90, .iload_n 2, 1), (91, .bipush 57, 2)]) (by decide +kernel) (pc' := 93) (L' := #[.val (.ref x0), .val (.int (Int32.ofNat i)), .val (.int cv), .val (.int z)]) (S' := [(.int (57 : Int32)), (.int cv)]) rfl ?_
                  refine Run.icmp hK (cd := .le) (o := 15) (by decide +kernel) (by decide) (pc' := 108) rfl (fun qh3 => ?_) (fun qh3 => ?_)
                  · replace qh3 := (h_le _ _).1 qh3
                    exact j108
                  · replace qh3 := (h_le _ _).2 qh3
                    refine Run.pure hK (seg := [(96, .iload_n 2, 1), (97, .bipush 95, 2)]) (by decide +kernel) (pc' := 99) (L' := #[.val (.ref x0), .val (.int (Int32.ofNat i)), .val (.int cv), .val (.int z)]) (S' := [(.int (95 : Int32)), (.int cv)]) rfl ?_
                    refine Run.icmp hK (cd := .eq) (o := 9) (by decide +kernel) (by decide) (pc' := 108) rfl (fun q95 => ?_) (fun q95 => ?_)
                    · replace q95 := (h_eq _ _).1 q95
                      exact j108
                    · replace q95 := (h_eq _ _).2 q95
                      refine Run.pure hK (seg := [(102, .iload_n 2, 1), (103, .bipush 45, 2)]) (by decide +kernel) (pc' := 105) (L' := #[.val (.ref x0), .val (.int (Int32.ofNat i)), .val (.int cv), .val (.int z)]) (S' := [(.int (45 : Int32)), (.int cv)]) rfl ?_
                      refine Run.icmp hK (cd := .ne) (o := 7) (by decide +kernel) (by decide) (pc' := 112) rfl (fun q45 => ?_) (fun q45 => ?_)
                      · replace q45 := (h_ne _ _).1 q45
                        exfalso; simp only [Int32.lt_iff_toInt_lt, ← Int32.toInt_inj] at *; omega
                      · replace q45 := (h_ne _ _).2 q45
                        exact j108
  refine Run.pure hK (seg := [(0, .aload_n 0, 1)]) (by decide +kernel) (pc' := 1) (L' := #[.val (.ref x0), .unset, .unset, .unset]) (S' := [(.ref x0)]) rfl ?_
  refine Run.getf hK (index := 12) (host := "") (Or.inl (hw _ (List.mem_of_getElem? (i := 45) rfl))) Via.refl V2 (by decide +kernel) ?_
  refine Run.ifz hK (cd := .lt) (o := 17) (by decide +kernel) (by decide) (pc' := 21) rfl (fun q => by exact absurd ((h_lt _ _).1 q) g1) (fun _ => ?_)
  refine Run.pure hK (seg := [(7, .aload_n 0, 1)]) (by decide +kernel) (pc' := 8) (L' := #[.val (.ref x0), .unset, .unset, .unset]) (S' := [(.ref x0)]) rfl ?_
  refine Run.getf hK (index := 16) (host := "") (Or.inl (hw _ (List.mem_of_getElem? (i := 47) rfl))) Via.refl V3 (by decide +kernel) ?_
  refine Run.ifz hK (cd := .lt) (o := 10) (by decide +kernel) (by decide) (pc' := 21) rfl (fun q => by exact absurd ((h_lt _ _).1 q) g2) (fun _ => ?_)
  refine Run.pure hK (seg := [(14, .aload_n 0, 1)]) (by decide +kernel) (pc' := 15) (L' := #[.val (.ref x0), .unset, .unset, .unset]) (S' := [(.ref x0)]) rfl ?_
  refine Run.getf hK (index := 19) (host := "") (Or.inl (hw _ (List.mem_of_getElem? (i := 49) rfl))) Via.refl V4 (by decide +kernel) ?_
  refine Run.ifz hK (cd := .ge) (o := 20) (by decide +kernel) (by decide) (pc' := 38) rfl (fun _ => ?_) (fun q => by replace q := (h_ge _ _).2 q; exact absurd q g3)
  refine Run.pure hK (seg := [(38, .iconst 0, 1), (39, .istore_n 1, 1)]) (by decide +kernel) (pc' := 40) (L' := #[.val (.ref x0), .val (.int (0 : Int32)), .unset, .unset]) (S' := []) rfl ?_
  exact loop cs.length 0 _ _ (by omega) (Or.inl ⟨rfl, rfl⟩)
set_option maxRecDepth 65536 in
set_option maxHeartbeats 40000000 in
theorem c_vnul {l : Launch} {Z : State} {a0 : Array Value} {z0 : Int32} {fm : Value} (G : Env1 Z a0 z0 fm) (x0 : Addr) (m1 m2 m3 : Int32)  (h : Heap) (hx0 : Z.heap.size ≤ x0) (E : Exa Z h x0 "org/osgi/framework/Version") (F1 : Fld Z h x0 "org/osgi/framework/Version" "major" "I" (.int 0)) (F2 : Fld Z h x0 "org/osgi/framework/Version" "minor" "I" (.int 0)) (F3 : Fld Z h x0 "org/osgi/framework/Version" "micro" "I" (.int 0)) (F4 : Fld Z h x0 "org/osgi/framework/Version" "qualifier" "Ljava/lang/String;" .null) (g1 : ¬ m1 < 0) (g2 : ¬ m2 < 0) (g3 : ¬ m3 < 0) : Ctr Z consts_1 false l [] (⟨"org/osgi/framework/Version", "<init>", "(IIILjava/lang/String;)V"⟩ : MethodName) prog_142_method_2_code 5 none ({ frames := 5, cells := 2, slots := 4, locals := 70 } : Room) #[(.ref x0), (.int m1), (.int m2), (.int m3), .null] h [] (fun v h' => v = none ∧ Keep h h' [x0] ∧ ∃ s, Ver Z h' x0 m1 m2 m3 s ∧ Str Z h' s []) := by
  obtain ⟨hw, hEL, O2, P5, O4⟩ := id G
  refine Ctr.of_run (a0 := a0) (L0 := #[.val (.ref x0), .val (.int m1), .val (.int m2), .val (.int m3), .val .null]) (plainFor_of_name pn_ve) hEL (by first | (simp [argsToLocals, Value.category, maxLocals]; done) | rfl) (fun K hK => ?_)
  have wS := g_wS hw
  have Kp := Keep.refl h [x0]
  refine Run.pure hK (seg := [(0, .aload_n 0, 1)]) (by decide +kernel) (pc' := 1) (L' := #[.val (.ref x0), .val (.int m1), .val (.int m2), .val (.int m3), .val .null]) (S' := [(.ref x0)]) rfl ?_
  refine Run.initobj hK (index := 7) (hw _ (List.mem_of_getElem? (i := 44) rfl)) (hw _ (List.mem_of_getElem? (i := 20) rfl)) (hw _ (List.mem_of_getElem? (i := 21) rfl)) rfl (by decide +kernel) (by decide) (Wt := 0) (Nat.le_of_ble_eq_true rfl) (by decide) ?_
  refine Run.pure hK (seg := [(4, .aload_n 0, 1), (5, .iload_n 1, 1)]) (by decide +kernel) (pc' := 6) (L' := #[.val (.ref x0), .val (.int m1), .val (.int m2), .val (.int m3), .val .null]) (S' := [(.int m1), (.ref x0)]) rfl ?_
  refine Run.putf hK (index := 12) (host := "") (Or.inl (hw _ (List.mem_of_getElem? (i := 45) rfl))) Via.refl F1 E (Or.inr ⟨(hw _ (List.mem_of_getElem? (i := 46) rfl)), rfl, rfl⟩) (hw _ (List.mem_of_getElem? (i := 39) rfl)) (ty := .int) (by decide) rfl rfl hx0 (sfE E (by decide) (by decide)) (by decide +kernel) (fun h1 W1 => ?_)
  replace F1 := F1.same W1
  replace F2 := F2.other W1 (Or.inr (slot_ne (Or.inr (hw _ (List.mem_of_getElem? (i := 48) rfl))) (Or.inr (hw _ (List.mem_of_getElem? (i := 46) rfl))) (by decide) (by decide : parseFieldDescriptor "I" = some .int) (by decide : parseFieldDescriptor "I" = some .int)))
  replace F3 := F3.other W1 (Or.inr (slot_ne (Or.inr (hw _ (List.mem_of_getElem? (i := 50) rfl))) (Or.inr (hw _ (List.mem_of_getElem? (i := 46) rfl))) (by decide) (by decide : parseFieldDescriptor "I" = some .int) (by decide : parseFieldDescriptor "I" = some .int)))
  replace F4 := F4.other W1 (Or.inr (slot_ne (Or.inr (hw _ (List.mem_of_getElem? (i := 52) rfl))) (Or.inr (hw _ (List.mem_of_getElem? (i := 46) rfl))) (by decide) (by decide : parseFieldDescriptor "Ljava/lang/String;" = some (.object "java/lang/String")) (by decide : parseFieldDescriptor "I" = some .int)))
  replace E := E.wr W1
  replace Kp := Kp.wr W1 (Or.inl (List.mem_singleton.mpr rfl))
  refine Run.pure hK (seg := [(9, .aload_n 0, 1), (10, .iload_n 2, 1)]) (by decide +kernel) (pc' := 11) (L' := #[.val (.ref x0), .val (.int m1), .val (.int m2), .val (.int m3), .val .null]) (S' := [(.int m2), (.ref x0)]) rfl ?_
  refine Run.putf hK (index := 16) (host := "") (Or.inl (hw _ (List.mem_of_getElem? (i := 47) rfl))) Via.refl F2 E (Or.inr ⟨(hw _ (List.mem_of_getElem? (i := 48) rfl)), rfl, rfl⟩) (hw _ (List.mem_of_getElem? (i := 39) rfl)) (ty := .int) (by decide) rfl rfl hx0 (sfE E (by decide) (by decide)) (by decide +kernel) (fun h2 W2 => ?_)
  replace F1 := F1.other W2 (Or.inr (slot_ne (Or.inr (hw _ (List.mem_of_getElem? (i := 46) rfl))) (Or.inr (hw _ (List.mem_of_getElem? (i := 48) rfl))) (by decide) (by decide : parseFieldDescriptor "I" = some .int) (by decide : parseFieldDescriptor "I" = some .int)))
  replace F2 := F2.same W2
  replace F3 := F3.other W2 (Or.inr (slot_ne (Or.inr (hw _ (List.mem_of_getElem? (i := 50) rfl))) (Or.inr (hw _ (List.mem_of_getElem? (i := 48) rfl))) (by decide) (by decide : parseFieldDescriptor "I" = some .int) (by decide : parseFieldDescriptor "I" = some .int)))
  replace F4 := F4.other W2 (Or.inr (slot_ne (Or.inr (hw _ (List.mem_of_getElem? (i := 52) rfl))) (Or.inr (hw _ (List.mem_of_getElem? (i := 48) rfl))) (by decide) (by decide : parseFieldDescriptor "Ljava/lang/String;" = some (.object "java/lang/String")) (by decide : parseFieldDescriptor "I" = some .int)))
  replace E := E.wr W2
  replace Kp := Kp.wr W2 (Or.inl (List.mem_singleton.mpr rfl))
  refine Run.pure hK (seg := [(14, .aload_n 0, 1), (15, .iload_n 3, 1)]) (by decide +kernel) (pc' := 16) (L' := #[.val (.ref x0), .val (.int m1), .val (.int m2), .val (.int m3), .val .null]) (S' := [(.int m3), (.ref x0)]) rfl ?_
  refine Run.putf hK (index := 19) (host := "") (Or.inl (hw _ (List.mem_of_getElem? (i := 49) rfl))) Via.refl F3 E (Or.inr ⟨(hw _ (List.mem_of_getElem? (i := 50) rfl)), rfl, rfl⟩) (hw _ (List.mem_of_getElem? (i := 39) rfl)) (ty := .int) (by decide) rfl rfl hx0 (sfE E (by decide) (by decide)) (by decide +kernel) (fun h3 W3 => ?_)
  replace F1 := F1.other W3 (Or.inr (slot_ne (Or.inr (hw _ (List.mem_of_getElem? (i := 46) rfl))) (Or.inr (hw _ (List.mem_of_getElem? (i := 50) rfl))) (by decide) (by decide : parseFieldDescriptor "I" = some .int) (by decide : parseFieldDescriptor "I" = some .int)))
  replace F2 := F2.other W3 (Or.inr (slot_ne (Or.inr (hw _ (List.mem_of_getElem? (i := 48) rfl))) (Or.inr (hw _ (List.mem_of_getElem? (i := 50) rfl))) (by decide) (by decide : parseFieldDescriptor "I" = some .int) (by decide : parseFieldDescriptor "I" = some .int)))
  replace F3 := F3.same W3
  replace F4 := F4.other W3 (Or.inr (slot_ne (Or.inr (hw _ (List.mem_of_getElem? (i := 52) rfl))) (Or.inr (hw _ (List.mem_of_getElem? (i := 50) rfl))) (by decide) (by decide : parseFieldDescriptor "Ljava/lang/String;" = some (.object "java/lang/String")) (by decide : parseFieldDescriptor "I" = some .int)))
  replace E := E.wr W3
  replace Kp := Kp.wr W3 (Or.inl (List.mem_singleton.mpr rfl))
  refine Run.pure hK (seg := [(19, .aload_n 0, 1), (20, .aload 4, 2)]) (by decide +kernel) (pc' := 22) (L' := #[.val (.ref x0), .val (.int m1), .val (.int m2), .val (.int m3), .val .null]) (S' := [.null, (.ref x0)]) rfl ?_
  refine Run.ifnnn hK (o := 8) (by decide +kernel) ?_
  refine Run.ldcs hK (index := 22) rfl (text := "") (hw _ (List.mem_of_getElem? (i := 136) rfl)) wS (by decide) (vs := []) (z := (0 : Int32)) (by decide +kernel) (by decide) (by decide +kernel) (by decide +kernel) (n := 0) (by decide) (by decide) (by decide) (by decide) (fun h4 x4 b4 k4 E4 X4 C4 V4 A4 => ?_)
  have S : Str Z h4 x4 [] := ⟨X4, C4, ⟨b4, k4, V4, A4⟩, (fun _ q => nomatch q), Nat.zero_le _⟩
  replace Kp := Kp.ext E4
  replace F1 := F1.ext E4
  replace F2 := F2.ext E4
  replace F3 := F3.ext E4
  replace F4 := F4.ext E4
  replace E := E.ext E4
  have E_ := E
  refine Run.pure hK (seg := [(27, .goto 5, 3)]) (by decide +kernel) (pc' := 32) (L' := #[.val (.ref x0), .val (.int m1), .val (.int m2), .val (.int m3), .val .null]) (S' := [(.ref x4), (.ref x0)]) rfl ?_
  refine Run.putf hK (index := 24) (host := "") (Or.inl (hw _ (List.mem_of_getElem? (i := 51) rfl))) Via.refl F4 E (Or.inr ⟨(hw _ (List.mem_of_getElem? (i := 52) rfl)), rfl, rfl⟩) (hw _ (List.mem_of_getElem? (i := 39) rfl)) (ty := (.object "java/lang/String")) (by decide) rfl rfl hx0 (sfE E (by decide) (by decide)) (by decide +kernel) (fun h5 W5 => ?_)
  replace F1 := F1.other W5 (Or.inr (slot_ne (Or.inr (hw _ (List.mem_of_getElem? (i := 46) rfl))) (Or.inr (hw _ (List.mem_of_getElem? (i := 52) rfl))) (by decide) (by decide : parseFieldDescriptor "I" = some .int) (by decide : parseFieldDescriptor "Ljava/lang/String;" = some (.object "java/lang/String"))))
  replace F2 := F2.other W5 (Or.inr (slot_ne (Or.inr (hw _ (List.mem_of_getElem? (i := 48) rfl))) (Or.inr (hw _ (List.mem_of_getElem? (i := 52) rfl))) (by decide) (by decide : parseFieldDescriptor "I" = some .int) (by decide : parseFieldDescriptor "Ljava/lang/String;" = some (.object "java/lang/String"))))
  replace F3 := F3.other W5 (Or.inr (slot_ne (Or.inr (hw _ (List.mem_of_getElem? (i := 50) rfl))) (Or.inr (hw _ (List.mem_of_getElem? (i := 52) rfl))) (by decide) (by decide : parseFieldDescriptor "I" = some .int) (by decide : parseFieldDescriptor "Ljava/lang/String;" = some (.object "java/lang/String"))))
  replace F4 := F4.same W5
  replace E := E.wr W5
  replace Kp := Kp.wr W5 (Or.inl (List.mem_singleton.mpr rfl))
  replace S := S.keep1 (Keep.of_wr W5) E_ (hw _ (List.mem_of_getElem? (i := 39) rfl)) (by decide)
  refine Run.pure hK (seg := [(35, .aload_n 0, 1)]) (by decide +kernel) (pc' := 36) (L' := #[.val (.ref x0), .val (.int m1), .val (.int m2), .val (.int m3), .val .null]) (S' := [(.ref x0)]) rfl ?_
  refine Run.privat hK (index := 28) (y := (⟨"org/osgi/framework/Version", "validate", "()V"⟩ : MethodName)) (Wt := 0) (kc := 0) (ks := 0) (hw _ (List.mem_of_getElem? (i := 53) rfl)) (hw _ (List.mem_of_getElem? (i := 54) rfl)) (hw _ (List.mem_of_getElem? (i := 39) rfl)) (hw _ (List.mem_of_getElem? (i := 55) rfl)) (hw _ (List.mem_of_getElem? (i := 56) rfl)) (by decide) (a := x0) E (W' := []) (fun _ q => nomatch q) (Ctr.cal (c_vali G x0 x4 m1 m2 m3 h5 ⟨E, F1, F2, F3, F4⟩ S g1 g2 g3 (fun _ q => nomatch q)) (hw _ (List.mem_of_getElem? (i := 56) rfl)) (hw _ (List.mem_of_getElem? (i := 40) rfl)) (by decide) (by decide)) rfl (argsL := []) (rest := []) (lenOf pd_v rfl) rfl (Nat.le_of_ble_eq_true rfl) (by decide +kernel) (by decide) (by decide) (fun v6 h6 q6 n6 => ?_)
  obtain ⟨rfl, rfl⟩ := q6
  exact Run.retv hK (by decide +kernel) (by decide) (by decide) ⟨rfl, Kp, x4, ⟨E, F1, F2, F3, F4⟩, S⟩
set_option maxRecDepth 65536 in
set_option maxHeartbeats 40000000 in
theorem c_vref {l : Launch} {Z : State} {a0 : Array Value} {z0 : Int32} {fm : Value} (G : Env1 Z a0 z0 fm) (x0 : Addr) (m1 m2 m3 : Int32) (s0 : Addr) {cs : List Int32} (h : Heap) (hx0 : Z.heap.size ≤ x0) (E : Exa Z h x0 "org/osgi/framework/Version") (F1 : Fld Z h x0 "org/osgi/framework/Version" "major" "I" (.int 0)) (F2 : Fld Z h x0 "org/osgi/framework/Version" "minor" "I" (.int 0)) (F3 : Fld Z h x0 "org/osgi/framework/Version" "micro" "I" (.int 0)) (F4 : Fld Z h x0 "org/osgi/framework/Version" "qualifier" "Ljava/lang/String;" .null) (g1 : ¬ m1 < 0) (g2 : ¬ m2 < 0) (g3 : ¬ m3 < 0) (S : Str Z h s0 cs) (hok : ∀ r ∈ cs, okq r) : Ctr Z consts_1 false l [] (⟨"org/osgi/framework/Version", "<init>", "(IIILjava/lang/String;)V"⟩ : MethodName) prog_142_method_2_code 5 none ({ frames := 5, cells := 2, slots := 4, locals := 70 } : Room) #[(.ref x0), (.int m1), (.int m2), (.int m3), (.ref s0)] h [] (fun v h' => v = none ∧ Keep h h' [x0] ∧ ∃ s, Ver Z h' x0 m1 m2 m3 s ∧ Str Z h' s cs) := by
  obtain ⟨hw, hEL, O2, P5, O4⟩ := id G
  refine Ctr.of_run (a0 := a0) (L0 := #[.val (.ref x0), .val (.int m1), .val (.int m2), .val (.int m3), .val (.ref s0)]) (plainFor_of_name pn_ve) hEL (by first | (simp [argsToLocals, Value.category, maxLocals]; done) | rfl) (fun K hK => ?_)
  have wS := g_wS hw
  have Kp := Keep.refl h [x0]
  refine Run.pure hK (seg := [(0, .aload_n 0, 1)]) (by decide +kernel) (pc' := 1) (L' := #[.val (.ref x0), .val (.int m1), .val (.int m2), .val (.int m3), .val (.ref s0)]) (S' := [(.ref x0)]) rfl ?_
  refine Run.initobj hK (index := 7) (hw _ (List.mem_of_getElem? (i := 44) rfl)) (hw _ (List.mem_of_getElem? (i := 20) rfl)) (hw _ (List.mem_of_getElem? (i := 21) rfl)) rfl (by decide +kernel) (by decide) (Wt := 0) (Nat.le_of_ble_eq_true rfl) (by decide) ?_
  have E_ := E
  refine Run.pure hK (seg := [(4, .aload_n 0, 1), (5, .iload_n 1, 1)]) (by decide +kernel) (pc' := 6) (L' := #[.val (.ref x0), .val (.int m1), .val (.int m2), .val (.int m3), .val (.ref s0)]) (S' := [(.int m1), (.ref x0)]) rfl ?_
  refine Run.putf hK (index := 12) (host := "") (Or.inl (hw _ (List.mem_of_getElem? (i := 45) rfl))) Via.refl F1 E (Or.inr ⟨(hw _ (List.mem_of_getElem? (i := 46) rfl)), rfl, rfl⟩) (hw _ (List.mem_of_getElem? (i := 39) rfl)) (ty := .int) (by decide) rfl rfl hx0 (sfE E (by decide) (by decide)) (by decide +kernel) (fun h1 W1 => ?_)
  replace F1 := F1.same W1
  replace F2 := F2.other W1 (Or.inr (slot_ne (Or.inr (hw _ (List.mem_of_getElem? (i := 48) rfl))) (Or.inr (hw _ (List.mem_of_getElem? (i := 46) rfl))) (by decide) (by decide : parseFieldDescriptor "I" = some .int) (by decide : parseFieldDescriptor "I" = some .int)))
  replace F3 := F3.other W1 (Or.inr (slot_ne (Or.inr (hw _ (List.mem_of_getElem? (i := 50) rfl))) (Or.inr (hw _ (List.mem_of_getElem? (i := 46) rfl))) (by decide) (by decide : parseFieldDescriptor "I" = some .int) (by decide : parseFieldDescriptor "I" = some .int)))
  replace F4 := F4.other W1 (Or.inr (slot_ne (Or.inr (hw _ (List.mem_of_getElem? (i := 52) rfl))) (Or.inr (hw _ (List.mem_of_getElem? (i := 46) rfl))) (by decide) (by decide : parseFieldDescriptor "Ljava/lang/String;" = some (.object "java/lang/String")) (by decide : parseFieldDescriptor "I" = some .int)))
  replace E := E.wr W1
  replace Kp := Kp.wr W1 (Or.inl (List.mem_singleton.mpr rfl))
  replace S := S.keep1 (Keep.of_wr W1) E_ (hw _ (List.mem_of_getElem? (i := 39) rfl)) (by decide)
  clear E_
  have E_ := E
  refine Run.pure hK (seg := [(9, .aload_n 0, 1), (10, .iload_n 2, 1)]) (by decide +kernel) (pc' := 11) (L' := #[.val (.ref x0), .val (.int m1), .val (.int m2), .val (.int m3), .val (.ref s0)]) (S' := [(.int m2), (.ref x0)]) rfl ?_
  refine Run.putf hK (index := 16) (host := "") (Or.inl (hw _ (List.mem_of_getElem? (i := 47) rfl))) Via.refl F2 E (Or.inr ⟨(hw _ (List.mem_of_getElem? (i := 48) rfl)), rfl, rfl⟩) (hw _ (List.mem_of_getElem? (i := 39) rfl)) (ty := .int) (by decide) rfl rfl hx0 (sfE E (by decide) (by decide)) (by decide +kernel) (fun h2 W2 => ?_)
  replace F1 := F1.other W2 (Or.inr (slot_ne (Or.inr (hw _ (List.mem_of_getElem? (i := 46) rfl))) (Or.inr (hw _ (List.mem_of_getElem? (i := 48) rfl))) (by decide) (by decide : parseFieldDescriptor "I" = some .int) (by decide : parseFieldDescriptor "I" = some .int)))
  replace F2 := F2.same W2
  replace F3 := F3.other W2 (Or.inr (slot_ne (Or.inr (hw _ (List.mem_of_getElem? (i := 50) rfl))) (Or.inr (hw _ (List.mem_of_getElem? (i := 48) rfl))) (by decide) (by decide : parseFieldDescriptor "I" = some .int) (by decide : parseFieldDescriptor "I" = some .int)))
  replace F4 := F4.other W2 (Or.inr (slot_ne (Or.inr (hw _ (List.mem_of_getElem? (i := 52) rfl))) (Or.inr (hw _ (List.mem_of_getElem? (i := 48) rfl))) (by decide) (by decide : parseFieldDescriptor "Ljava/lang/String;" = some (.object "java/lang/String")) (by decide : parseFieldDescriptor "I" = some .int)))
  replace E := E.wr W2
  replace Kp := Kp.wr W2 (Or.inl (List.mem_singleton.mpr rfl))
  replace S := S.keep1 (Keep.of_wr W2) E_ (hw _ (List.mem_of_getElem? (i := 39) rfl)) (by decide)
  clear E_
  have E_ := E
  refine Run.pure hK (seg := [(14, .aload_n 0, 1), (15, .iload_n 3, 1)]) (by decide +kernel) (pc' := 16) (L' := #[.val (.ref x0), .val (.int m1), .val (.int m2), .val (.int m3), .val (.ref s0)]) (S' := [(.int m3), (.ref x0)]) rfl ?_
  refine Run.putf hK (index := 19) (host := "") (Or.inl (hw _ (List.mem_of_getElem? (i := 49) rfl))) Via.refl F3 E (Or.inr ⟨(hw _ (List.mem_of_getElem? (i := 50) rfl)), rfl, rfl⟩) (hw _ (List.mem_of_getElem? (i := 39) rfl)) (ty := .int) (by decide) rfl rfl hx0 (sfE E (by decide) (by decide)) (by decide +kernel) (fun h3 W3 => ?_)
  replace F1 := F1.other W3 (Or.inr (slot_ne (Or.inr (hw _ (List.mem_of_getElem? (i := 46) rfl))) (Or.inr (hw _ (List.mem_of_getElem? (i := 50) rfl))) (by decide) (by decide : parseFieldDescriptor "I" = some .int) (by decide : parseFieldDescriptor "I" = some .int)))
  replace F2 := F2.other W3 (Or.inr (slot_ne (Or.inr (hw _ (List.mem_of_getElem? (i := 48) rfl))) (Or.inr (hw _ (List.mem_of_getElem? (i := 50) rfl))) (by decide) (by decide : parseFieldDescriptor "I" = some .int) (by decide : parseFieldDescriptor "I" = some .int)))
  replace F3 := F3.same W3
  replace F4 := F4.other W3 (Or.inr (slot_ne (Or.inr (hw _ (List.mem_of_getElem? (i := 52) rfl))) (Or.inr (hw _ (List.mem_of_getElem? (i := 50) rfl))) (by decide) (by decide : parseFieldDescriptor "Ljava/lang/String;" = some (.object "java/lang/String")) (by decide : parseFieldDescriptor "I" = some .int)))
  replace E := E.wr W3
  replace Kp := Kp.wr W3 (Or.inl (List.mem_singleton.mpr rfl))
  replace S := S.keep1 (Keep.of_wr W3) E_ (hw _ (List.mem_of_getElem? (i := 39) rfl)) (by decide)
  clear E_
  refine Run.pure hK (seg := [(19, .aload_n 0, 1), (20, .aload 4, 2)]) (by decide +kernel) (pc' := 22) (L' := #[.val (.ref x0), .val (.int m1), .val (.int m2), .val (.int m3), .val (.ref s0)]) (S' := [(.ref s0), (.ref x0)]) rfl ?_
  refine Run.ifnnr hK (o := 8) (by decide +kernel) (by decide) (pc' := 30) rfl ?_
  have E_ := E
  refine Run.pure hK (seg := [(30, .aload 4, 2)]) (by decide +kernel) (pc' := 32) (L' := #[.val (.ref x0), .val (.int m1), .val (.int m2), .val (.int m3), .val (.ref s0)]) (S' := [(.ref s0), (.ref x0)]) rfl ?_
  refine Run.putf hK (index := 24) (host := "") (Or.inl (hw _ (List.mem_of_getElem? (i := 51) rfl))) Via.refl F4 E (Or.inr ⟨(hw _ (List.mem_of_getElem? (i := 52) rfl)), rfl, rfl⟩) (hw _ (List.mem_of_getElem? (i := 39) rfl)) (ty := (.object "java/lang/String")) (by decide) rfl rfl hx0 (sfE E (by decide) (by decide)) (by decide +kernel) (fun h5 W5 => ?_)
  replace F1 := F1.other W5 (Or.inr (slot_ne (Or.inr (hw _ (List.mem_of_getElem? (i := 46) rfl))) (Or.inr (hw _ (List.mem_of_getElem? (i := 52) rfl))) (by decide) (by decide : parseFieldDescriptor "I" = some .int) (by decide : parseFieldDescriptor "Ljava/lang/String;" = some (.object "java/lang/String"))))
  replace F2 := F2.other W5 (Or.inr (slot_ne (Or.inr (hw _ (List.mem_of_getElem? (i := 48) rfl))) (Or.inr (hw _ (List.mem_of_getElem? (i := 52) rfl))) (by decide) (by decide : parseFieldDescriptor "I" = some .int) (by decide : parseFieldDescriptor "Ljava/lang/String;" = some (.object "java/lang/String"))))
  replace F3 := F3.other W5 (Or.inr (slot_ne (Or.inr (hw _ (List.mem_of_getElem? (i := 50) rfl))) (Or.inr (hw _ (List.mem_of_getElem? (i := 52) rfl))) (by decide) (by decide : parseFieldDescriptor "I" = some .int) (by decide : parseFieldDescriptor "Ljava/lang/String;" = some (.object "java/lang/String"))))
  replace F4 := F4.same W5
  replace E := E.wr W5
  replace Kp := Kp.wr W5 (Or.inl (List.mem_singleton.mpr rfl))
  replace S := S.keep1 (Keep.of_wr W5) E_ (hw _ (List.mem_of_getElem? (i := 39) rfl)) (by decide)
  clear E_
  refine Run.pure hK (seg := [(35, .aload_n 0, 1)]) (by decide +kernel) (pc' := 36) (L' := #[.val (.ref x0), .val (.int m1), .val (.int m2), .val (.int m3), .val (.ref s0)]) (S' := [(.ref x0)]) rfl ?_
  refine Run.privat hK (index := 28) (y := (⟨"org/osgi/framework/Version", "validate", "()V"⟩ : MethodName)) (Wt := 0) (kc := 0) (ks := 0) (hw _ (List.mem_of_getElem? (i := 53) rfl)) (hw _ (List.mem_of_getElem? (i := 54) rfl)) (hw _ (List.mem_of_getElem? (i := 39) rfl)) (hw _ (List.mem_of_getElem? (i := 55) rfl)) (hw _ (List.mem_of_getElem? (i := 56) rfl)) (by decide) (a := x0) E (W' := []) (fun _ q => nomatch q) (Ctr.cal (c_vali G x0 s0 m1 m2 m3 h5 ⟨E, F1, F2, F3, F4⟩ S g1 g2 g3 hok) (hw _ (List.mem_of_getElem? (i := 56) rfl)) (hw _ (List.mem_of_getElem? (i := 40) rfl)) (by decide) (by decide)) rfl (argsL := []) (rest := []) (lenOf pd_v rfl) rfl (Nat.le_of_ble_eq_true rfl) (by decide +kernel) (by decide) (by decide) (fun v6 h6 q6 n6 => ?_)
  obtain ⟨rfl, rfl⟩ := q6
  exact Run.retv hK (by decide +kernel) (by decide) (by decide) ⟨rfl, Kp, s0, ⟨E, F1, F2, F3, F4⟩, S⟩
set_option maxRecDepth 65536 in
set_option maxHeartbeats 40000000 in
theorem c_eqT {l : Launch} {Z : State} {a0 : Array Value} {z0 : Int32} {fm : Value} (G : Env1 Z a0 z0 fm) (x0 : Addr) (h : Heap) : Ctr Z consts_1 false l [] (⟨"org/osgi/framework/Version", "equals", "(Ljava/lang/Object;)Z"⟩ : MethodName) prog_142_method_11_code 3 (some .boolean) ({ frames := 0, cells := 0, slots := 0, locals := 0 } : Room) #[(.ref x0), (.ref x0)] h [] (fun v h' => h' = h ∧ v = some (.int 1)) := by
  obtain ⟨hw, hEL, O2, P5, O4⟩ := id G
  refine Ctr.of_run (a0 := a0) (L0 := #[.val (.ref x0), .val (.ref x0), .unset]) (plainFor_of_name pn_ve) hEL (by first | (simp [argsToLocals, Value.category, maxLocals]; done) | rfl) (fun K hK => ?_)
  refine Run.pure hK (seg := [(0, .aload_n 1, 1), (1, .aload_n 0, 1)]) (by decide +kernel) (pc' := 2) (L' := #[.val (.ref x0), .val (.ref x0), .unset]) (S' := [(.ref x0), (.ref x0)]) rfl ?_
  refine Run.acmp hK (cd := .ne) (o := 5) (same := true) rfl rfl (decide_eq_true rfl) (by decide +kernel) (by decide) (pc' := 5) rfl ?_
  refine Run.pure hK (seg := [(5, .iconst 1, 1)]) (by decide +kernel) (pc' := 6) (L' := #[.val (.ref x0), .val (.ref x0), .unset]) (S' := [(.int (1 : Int32))]) rfl ?_
  exact Run.retw hK (i := .ireturn) rfl (Or.inl ⟨rfl, Or.inr (Or.inl rfl), _, rfl⟩) (by decide +kernel) (by decide) (by decide) ⟨rfl, rfl⟩
set_option maxRecDepth 65536 in
set_option maxHeartbeats 40000000 in
theorem c_eqN {l : Launch} {Z : State} {a0 : Array Value} {z0 : Int32} {fm : Value} (G : Env1 Z a0 z0 fm) (x0 : Addr) (h : Heap) : Ctr Z consts_1 false l [] (⟨"org/osgi/framework/Version", "equals", "(Ljava/lang/Object;)Z"⟩ : MethodName) prog_142_method_11_code 3 (some .boolean) ({ frames := 0, cells := 0, slots := 0, locals := 0 } : Room) #[(.ref x0), .null] h [] (fun v h' => h' = h ∧ v = some (.int 0)) := by
  obtain ⟨hw, hEL, O2, P5, O4⟩ := id G
  refine Ctr.of_run (a0 := a0) (L0 := #[.val (.ref x0), .val .null, .unset]) (plainFor_of_name pn_ve) hEL (by first | (simp [argsToLocals, Value.category, maxLocals]; done) | rfl) (fun K hK => ?_)
  refine Run.pure hK (seg := [(0, .aload_n 1, 1), (1, .aload_n 0, 1)]) (by decide +kernel) (pc' := 2) (L' := #[.val (.ref x0), .val .null, .unset]) (S' := [(.ref x0), .null]) rfl ?_
  refine Run.acmp hK (cd := .ne) (o := 5) (same := false) rfl rfl (decide_eq_false (fun z => nomatch z)) (by decide +kernel) (by decide) (pc' := 7) rfl ?_
  refine Run.pure hK (seg := [(7, .aload_n 1, 1)]) (by decide +kernel) (pc' := 8) (L' := #[.val (.ref x0), .val .null, .unset]) (S' := [.null]) rfl ?_
  refine Run.instNull hK (index := 2) (by decide +kernel) ?_
  refine Run.ifz hK (cd := .eq) (o := 59) (by decide +kernel) (by decide) (pc' := 70) rfl (fun _ => ?_) (fun q => by replace q := (h_eq _ _).2 q; exact absurd rfl q)
  refine Run.pure hK (seg := [(70, .iconst 0, 1)]) (by decide +kernel) (pc' := 71) (L' := #[.val (.ref x0), .val .null, .unset]) (S' := [(.int (0 : Int32))]) rfl ?_
  exact Run.retw hK (i := .ireturn) rfl (Or.inl ⟨rfl, Or.inr (Or.inl rfl), _, rfl⟩) (by decide +kernel) (by decide) (by decide) ⟨rfl, rfl⟩
set_option maxRecDepth 65536 in
set_option maxHeartbeats 40000000 in
theorem c_eqI {l : Launch} {Z : State} {a0 : Array Value} {z0 : Int32} {fm : Value} (G : Env1 Z a0 z0 fm) (x0 x1 : Addr) (h : Heap) (V : Exa Z h x0 "org/osgi/framework/Version") (E : Exa Z h x1 "java/lang/Integer") : Ctr Z consts_1 false l [] (⟨"org/osgi/framework/Version", "equals", "(Ljava/lang/Object;)Z"⟩ : MethodName) prog_142_method_11_code 3 (some .boolean) ({ frames := 0, cells := 0, slots := 0, locals := 0 } : Room) #[(.ref x0), (.ref x1)] h [] (fun v h' => h' = h ∧ v = some (.int 0)) := by
  obtain ⟨hw, hEL, O2, P5, O4⟩ := id G
  refine Ctr.of_run (a0 := a0) (L0 := #[.val (.ref x0), .val (.ref x1), .unset]) (plainFor_of_name pn_ve) hEL (by first | (simp [argsToLocals, Value.category, maxLocals]; done) | rfl) (fun K hK => ?_)
  refine Run.pure hK (seg := [(0, .aload_n 1, 1), (1, .aload_n 0, 1)]) (by decide +kernel) (pc' := 2) (L' := #[.val (.ref x0), .val (.ref x1), .unset]) (S' := [(.ref x0), (.ref x1)]) rfl ?_
  refine Run.acmp hK (cd := .ne) (o := 5) (same := false) rfl rfl (decide_eq_false (fun z => E.ne V (by decide) (Value.ref.inj z))) (by decide +kernel) (by decide) (pc' := 7) rfl ?_
  refine Run.pure hK (seg := [(7, .aload_n 1, 1)]) (by decide +kernel) (pc' := 8) (L' := #[.val (.ref x0), .val (.ref x1), .unset]) (S' := [(.ref x1)]) rfl ?_
  refine Run.instN hK (index := 2) (hw _ (List.mem_of_getElem? (i := 94) rfl)) (ins_no2 (hw _ (List.mem_of_getElem? (i := 120) rfl)) (hw _ (List.mem_of_getElem? (i := 121) rfl)) (hw _ (List.mem_of_getElem? (i := 122) rfl)) (hw _ (List.mem_of_getElem? (i := 39) rfl)) (by decide) (by decide) (by decide) E) E (by decide +kernel) ?_
  refine Run.ifz hK (cd := .eq) (o := 59) (by decide +kernel) (by decide) (pc' := 70) rfl (fun _ => ?_) (fun q => by replace q := (h_eq _ _).2 q; exact absurd rfl q)
  refine Run.pure hK (seg := [(70, .iconst 0, 1)]) (by decide +kernel) (pc' := 71) (L' := #[.val (.ref x0), .val (.ref x1), .unset]) (S' := [(.int (0 : Int32))]) rfl ?_
  exact Run.retw hK (i := .ireturn) rfl (Or.inl ⟨rfl, Or.inr (Or.inl rfl), _, rfl⟩) (by decide +kernel) (by decide) (by decide) ⟨rfl, rfl⟩
set_option maxRecDepth 65536 in
set_option maxHeartbeats 40000000 in
theorem c_eqV {l : Launch} {Z : State} {a0 : Array Value} {z0 : Int32} {fm : Value} (G : Env1 Z a0 z0 fm) (x0 x1 s0 s1 : Addr) (m1 m2 m3 n1 n2 n3 : Int32) {cs ds : List Int32} (h : Heap) (hne : x1 ≠ x0) (V0 : Ver Z h x0 m1 m2 m3 s0) (V1 : Ver Z h x1 n1 n2 n3 s1) (S0 : Str Z h s0 cs) (S1 : Str Z h s1 ds) : Ctr Z consts_1 false l [] (⟨"org/osgi/framework/Version", "equals", "(Ljava/lang/Object;)Z"⟩ : MethodName) prog_142_method_11_code 3 (some .boolean) ({ frames := 2, cells := 0, slots := 0, locals := 28 } : Room) #[(.ref x0), (.ref x1)] h [] (fun v h' => h' = h ∧ v = some (.int (if m1 = n1 ∧ m2 = n2 ∧ m3 = n3 ∧ cs = ds then 1 else 0))) := by
  obtain ⟨hw, hEL, O2, P5, O4⟩ := id G
  refine Ctr.of_run (a0 := a0) (L0 := #[.val (.ref x0), .val (.ref x1), .unset]) (plainFor_of_name pn_ve) hEL (by first | (simp [argsToLocals, Value.category, maxLocals]; done) | rfl) (fun K hK => ?_)
  obtain ⟨a1, a2, a3, a4, a5⟩ := V0
  obtain ⟨b1, b2, b3, b4, b5⟩ := V1
  refine Run.pure hK (seg := [(0, .aload_n 1, 1), (1, .aload_n 0, 1)]) (by decide +kernel) (pc' := 2) (L' := #[.val (.ref x0), .val (.ref x1), .unset]) (S' := [(.ref x0), (.ref x1)]) rfl ?_
  refine Run.acmp hK (cd := .ne) (o := 5) (same := false) rfl rfl (decide_eq_false (fun z => hne (Value.ref.inj z))) (by decide +kernel) (by decide) (pc' := 7) rfl ?_
  refine Run.pure hK (seg := [(7, .aload_n 1, 1)]) (by decide +kernel) (pc' := 8) (L' := #[.val (.ref x0), .val (.ref x1), .unset]) (S' := [(.ref x1)]) rfl ?_
  refine Run.instY hK (index := 2) (hw _ (List.mem_of_getElem? (i := 94) rfl)) (Ins.self b1) (by decide +kernel) ?_
  refine Run.ifz hK (cd := .eq) (o := 59) (by decide +kernel) (by decide) (pc' := 70) rfl (fun q => by replace q := (h_eq _ _).1 q; exact absurd q (by decide)) (fun _ => ?_)
  refine Run.pure hK (seg := [(14, .aload_n 1, 1)]) (by decide +kernel) (pc' := 15) (L' := #[.val (.ref x0), .val (.ref x1), .unset]) (S' := [(.ref x1)]) rfl ?_
  refine Run.cast hK (index := 2) (hw _ (List.mem_of_getElem? (i := 94) rfl)) (Ins.self b1) (by decide +kernel) ?_
  refine Run.pure hK (seg := [(18, .astore_n 2, 1), (19, .aload_n 0, 1)]) (by decide +kernel) (pc' := 20) (L' := #[.val (.ref x0), .val (.ref x1), .val (.ref x1)]) (S' := [(.ref x0)]) rfl ?_
  refine Run.getf hK (index := 12) (host := "") (Or.inl (hw _ (List.mem_of_getElem? (i := 45) rfl))) Via.refl a2 (by decide +kernel) ?_
  refine Run.pure hK (seg := [(23, .aload_n 2, 1)]) (by decide +kernel) (pc' := 24) (L' := #[.val (.ref x0), .val (.ref x1), .val (.ref x1)]) (S' := [(.ref x1), (.int m1)]) rfl ?_
  refine Run.getf hK (index := 12) (host := "") (Or.inl (hw _ (List.mem_of_getElem? (i := 45) rfl))) Via.refl b2 (by decide +kernel) ?_
  refine Run.icmp hK (cd := .ne) (o := 43) (by decide +kernel) (by decide) (pc' := 70) rfl (fun q0 => ?_) (fun q0 => ?_)
  · replace q0 := (h_ne _ _).1 q0
    refine Run.pure hK (seg := [(70, .iconst 0, 1)]) (by decide +kernel) (pc' := 71) (L' := #[.val (.ref x0), .val (.ref x1), .val (.ref x1)]) (S' := [(.int (0 : Int32))]) rfl ?_
    exact Run.retw hK (i := .ireturn) rfl (Or.inl ⟨rfl, Or.inr (Or.inl rfl), _, rfl⟩) (by decide +kernel) (by decide) (by decide) ⟨rfl, by rw [if_neg (fun z => q0 z.1)]⟩
  · replace q0 := (h_ne _ _).2 q0
    refine Run.pure hK (seg := [(30, .aload_n 0, 1)]) (by decide +kernel) (pc' := 31) (L' := #[.val (.ref x0), .val (.ref x1), .val (.ref x1)]) (S' := [(.ref x0)]) rfl ?_
    refine Run.getf hK (index := 16) (host := "") (Or.inl (hw _ (List.mem_of_getElem? (i := 47) rfl))) Via.refl a3 (by decide +kernel) ?_
    refine Run.pure hK (seg := [(34, .aload_n 2, 1)]) (by decide +kernel) (pc' := 35) (L' := #[.val (.ref x0), .val (.ref x1), .val (.ref x1)]) (S' := [(.ref x1), (.int m2)]) rfl ?_
    refine Run.getf hK (index := 16) (host := "") (Or.inl (hw _ (List.mem_of_getElem? (i := 47) rfl))) Via.refl b3 (by decide +kernel) ?_
    refine Run.icmp hK (cd := .ne) (o := 32) (by decide +kernel) (by decide) (pc' := 70) rfl (fun q1 => ?_) (fun q1 => ?_)
    · replace q1 := (h_ne _ _).1 q1
      refine Run.pure hK (seg := [(70, .iconst 0, 1)]) (by decide +kernel) (pc' := 71) (L' := #[.val (.ref x0), .val (.ref x1), .val (.ref x1)]) (S' := [(.int (0 : Int32))]) rfl ?_
      exact Run.retw hK (i := .ireturn) rfl (Or.inl ⟨rfl, Or.inr (Or.inl rfl), _, rfl⟩) (by decide +kernel) (by decide) (by decide) ⟨rfl, by rw [if_neg (fun z => q1 z.2.1)]⟩
    · replace q1 := (h_ne _ _).2 q1
      refine Run.pure hK (seg := [(41, .aload_n 0, 1)]) (by decide +kernel) (pc' := 42) (L' := #[.val (.ref x0), .val (.ref x1), .val (.ref x1)]) (S' := [(.ref x0)]) rfl ?_
      refine Run.getf hK (index := 19) (host := "") (Or.inl (hw _ (List.mem_of_getElem? (i := 49) rfl))) Via.refl a4 (by decide +kernel) ?_
      refine Run.pure hK (seg := [(45, .aload_n 2, 1)]) (by decide +kernel) (pc' := 46) (L' := #[.val (.ref x0), .val (.ref x1), .val (.ref x1)]) (S' := [(.ref x1), (.int m3)]) rfl ?_
      refine Run.getf hK (index := 19) (host := "") (Or.inl (hw _ (List.mem_of_getElem? (i := 49) rfl))) Via.refl b4 (by decide +kernel) ?_
      refine Run.icmp hK (cd := .ne) (o := 21) (by decide +kernel) (by decide) (pc' := 70) rfl (fun q2 => ?_) (fun q2 => ?_)
      · replace q2 := (h_ne _ _).1 q2
        refine Run.pure hK (seg := [(70, .iconst 0, 1)]) (by decide +kernel) (pc' := 71) (L' := #[.val (.ref x0), .val (.ref x1), .val (.ref x1)]) (S' := [(.int (0 : Int32))]) rfl ?_
        exact Run.retw hK (i := .ireturn) rfl (Or.inl ⟨rfl, Or.inr (Or.inl rfl), _, rfl⟩) (by decide +kernel) (by decide) (by decide) ⟨rfl, by rw [if_neg (fun z => q2 z.2.2.1)]⟩
      · replace q2 := (h_ne _ _).2 q2
        refine Run.pure hK (seg := [(52, .aload_n 0, 1)]) (by decide +kernel) (pc' := 53) (L' := #[.val (.ref x0), .val (.ref x1), .val (.ref x1)]) (S' := [(.ref x0)]) rfl ?_
        refine Run.getf hK (index := 24) (host := "") (Or.inl (hw _ (List.mem_of_getElem? (i := 51) rfl))) Via.refl a5 (by decide +kernel) ?_
        refine Run.pure hK (seg := [(56, .aload_n 2, 1)]) (by decide +kernel) (pc' := 57) (L' := #[.val (.ref x0), .val (.ref x1), .val (.ref x1)]) (S' := [(.ref x1), (.ref s0)]) rfl ?_
        refine Run.getf hK (index := 24) (host := "") (Or.inl (hw _ (List.mem_of_getElem? (i := 51) rfl))) Via.refl b5 (by decide +kernel) ?_
        refine Run.virtual hK (index := 76) (y := (⟨"java/lang/String", "equals", "(Ljava/lang/Object;)Z"⟩ : MethodName)) (z := (⟨"java/lang/String", "equals", "(Ljava/lang/Object;)Z"⟩ : MethodName)) (C := "java/lang/String") (Wt := 0) (kc := 0) (ks := 0) (hw _ (List.mem_of_getElem? (i := 126) rfl)) (hw _ (List.mem_of_getElem? (i := 127) rfl)) (nfS (hw _ (List.mem_of_getElem? (i := 129) rfl))) (hw _ (List.mem_of_getElem? (i := 129) rfl)) (hw _ (List.mem_of_getElem? (i := 128) rfl)) (by decide) (a := s0) S0.1 (fun _ q => q) (cal_eq (g_eqW hw) (hw _ (List.mem_of_getElem? (i := 9) rfl)) S0 S1 O2 P5 (by decide) (by decide)) rfl (argsL := [(.ref s1)]) (rest := []) (lenOf pd_eq rfl) rfl (Nat.le_of_ble_eq_true rfl) (by decide +kernel) (by decide) (by decide) (fun v1 h1 q1 n1 => ?_)
        obtain ⟨rfl, rfl⟩ := q1
        by_cases qs : cs = ds
        · rw [if_pos qs]
          refine Run.ifz hK (cd := .eq) (o := 7) (by decide +kernel) (by decide) (pc' := 70) rfl (fun q => by replace q := (h_eq _ _).1 q; exact absurd q (by decide)) (fun _ => ?_)
          refine Run.pure hK (seg := [(66, .iconst 1, 1), (67, .goto 4, 3)]) (by decide +kernel) (pc' := 71) (L' := #[.val (.ref x0), .val (.ref x1), .val (.ref x1)]) (S' := [(.int (1 : Int32))]) rfl ?_
          exact Run.retw hK (i := .ireturn) rfl (Or.inl ⟨rfl, Or.inr (Or.inl rfl), _, rfl⟩) (by decide +kernel) (by decide) (by decide) ⟨rfl, by rw [if_pos ⟨q0, q1, q2, qs⟩]⟩
        · rw [if_neg qs]
          refine Run.ifz hK (cd := .eq) (o := 7) (by decide +kernel) (by decide) (pc' := 70) rfl (fun _ => ?_) (fun q => by replace q := (h_eq _ _).2 q; exact absurd q (by decide))
          refine Run.pure hK (seg := [(70, .iconst 0, 1)]) (by decide +kernel) (pc' := 71) (L' := #[.val (.ref x0), .val (.ref x1), .val (.ref x1)]) (S' := [(.int (0 : Int32))]) rfl ?_
          exact Run.retw hK (i := .ireturn) rfl (Or.inl ⟨rfl, Or.inr (Or.inl rfl), _, rfl⟩) (by decide +kernel) (by decide) (by decide) ⟨rfl, by rw [if_neg (fun z => qs z.2.2.2)]⟩
set_option maxRecDepth 65536 in
set_option maxHeartbeats 40000000 in
theorem c_same {l : Launch} {Z : State} {a0 : Array Value} {z0 : Int32} {fm : Value} (G : Env1 Z a0 z0 fm) (x0 x1 : Int32) (h : Heap) : Ctr Z consts_1 false l [] (⟨"org/osgi/framework/VersionEqualsPinLaw", "sameQual", "(II)Z"⟩ : MethodName) method_4_code 3 (some .boolean) ({ frames := 0, cells := 0, slots := 0, locals := 0 } : Room) #[(.int x0), (.int x1)] h [] (fun v h' => h' = h ∧ v = some (.int (if quF x0 = quF x1 then 1 else 0))) := by
  obtain ⟨hw, hEL, O2, P5, O4⟩ := id G
  refine Ctr.of_run (a0 := a0) (L0 := #[.val (.int x0), .val (.int x1), .unset]) (plainFor_of_name pn_law) hEL (by first | (simp [argsToLocals, Value.category, maxLocals]; done) | rfl) (fun K hK => ?_)
  have hq := quF_eq x0 x1
  refine Run.pure hK (seg := [(0, .iload_n 0, 1), (1, .iconst 3, 1), (2, .iand, 1), (3, .istore_n 2, 1), (4, .iload_n 2, 1), (5, .iload_n 1, 1), (6, .iconst 3, 1), (7, .iand, 1)]) (by decide +kernel) (pc' := 8) (L' := #[.val (.int x0), .val (.int x1), .val (.int (x0 &&& (3 : Int32)))]) (S' := [(.int (x1 &&& (3 : Int32))), (.int (x0 &&& (3 : Int32)))]) rfl ?_
  refine Run.icmp hK (cd := .eq) (o := 5) (by decide +kernel) (by decide) (pc' := 13) rfl (fun qn => ?_) (fun qn => ?_)
  · replace qn := (h_eq _ _).1 qn
    refine Run.pure hK (seg := [(13, .iload_n 2, 1), (14, .iconst 1, 1)]) (by decide +kernel) (pc' := 15) (L' := #[.val (.int x0), .val (.int x1), .val (.int (x0 &&& (3 : Int32)))]) (S' := [(.int (1 : Int32)), (.int (x0 &&& (3 : Int32)))]) rfl ?_
    refine Run.icmp hK (cd := .lt) (o := 20) (by decide +kernel) (by decide) (pc' := 35) rfl (fun ql0 => ?_) (fun ql0 => ?_)
    · replace ql0 := (h_lt _ _).1 ql0
      refine Run.pure hK (seg := [(35, .iload_n 2, 1), (36, .iconst 2, 1)]) (by decide +kernel) (pc' := 37) (L' := #[.val (.int x0), .val (.int x1), .val (.int (x0 &&& (3 : Int32)))]) (S' := [(.int (2 : Int32)), (.int (x0 &&& (3 : Int32)))]) rfl ?_
      refine Run.icmp hK (cd := .lt) (o := 22) (by decide +kernel) (by decide) (pc' := 59) rfl (fun ql1 => ?_) (fun ql1 => ?_)
      · replace ql1 := (h_lt _ _).1 ql1
        refine Run.pure hK (seg := [(59, .iload_n 2, 1), (60, .iconst 3, 1)]) (by decide +kernel) (pc' := 61) (L' := #[.val (.int x0), .val (.int x1), .val (.int (x0 &&& (3 : Int32)))]) (S' := [(.int (3 : Int32)), (.int (x0 &&& (3 : Int32)))]) rfl ?_
        refine Run.icmp hK (cd := .lt) (o := 22) (by decide +kernel) (by decide) (pc' := 83) rfl (fun ql2 => ?_) (fun ql2 => ?_)
        · replace ql2 := (h_lt _ _).1 ql2
          refine Run.pure hK (seg := [(83, .iconst 1, 1)]) (by decide +kernel) (pc' := 84) (L' := #[.val (.int x0), .val (.int x1), .val (.int (x0 &&& (3 : Int32)))]) (S' := [(.int (1 : Int32))]) rfl ?_
          exact Run.retw hK (i := .ireturn) rfl (Or.inl ⟨rfl, Or.inr (Or.inl rfl), _, rfl⟩) (by decide +kernel) (by decide) (by decide) ⟨rfl, by rw [if_pos (hq.mpr ⟨qn, (fun z => absurd ql0 z), (fun z => absurd ql1 z), (fun z => absurd ql2 z)⟩)]⟩
        · replace ql2 := (h_lt _ _).2 ql2
          refine Run.pure hK (seg := [(64, .iload_n 0, 1), (65, .bipush 14, 2), (67, .iushr, 1), (68, .bipush 63, 2), (70, .iand, 1), (71, .iload_n 1, 1), (72, .bipush 14, 2), (74, .iushr, 1), (75, .bipush 63, 2), (77, .iand, 1)]) (by decide +kernel) (pc' := 78) (L' := #[.val (.int x0), .val (.int x1), .val (.int (x0 &&& (3 : Int32)))]) (S' := [(.int ((XT.ushr x1 (14 : Int32)) &&& (63 : Int32))), (.int ((XT.ushr x0 (14 : Int32)) &&& (63 : Int32)))]) rfl ?_
          refine Run.icmp hK (cd := .eq) (o := 5) (by decide +kernel) (by decide) (pc' := 83) rfl (fun qe2 => ?_) (fun qe2 => ?_)
          · replace qe2 := (h_eq _ _).1 qe2
            refine Run.pure hK (seg := [(83, .iconst 1, 1)]) (by decide +kernel) (pc' := 84) (L' := #[.val (.int x0), .val (.int x1), .val (.int (x0 &&& (3 : Int32)))]) (S' := [(.int (1 : Int32))]) rfl ?_
            exact Run.retw hK (i := .ireturn) rfl (Or.inl ⟨rfl, Or.inr (Or.inl rfl), _, rfl⟩) (by decide +kernel) (by decide) (by decide) ⟨rfl, by rw [if_pos (hq.mpr ⟨qn, (fun z => absurd ql0 z), (fun z => absurd ql1 z), (fun _ => qe2)⟩)]⟩
          · replace qe2 := (h_eq _ _).2 qe2
            refine Run.pure hK (seg := [(81, .iconst 0, 1)]) (by decide +kernel) (pc' := 82) (L' := #[.val (.int x0), .val (.int x1), .val (.int (x0 &&& (3 : Int32)))]) (S' := [(.int (0 : Int32))]) rfl ?_
            exact Run.retw hK (i := .ireturn) rfl (Or.inl ⟨rfl, Or.inr (Or.inl rfl), _, rfl⟩) (by decide +kernel) (by decide) (by decide) ⟨rfl, by rw [if_neg (fun z => qe2 ((hq.mp z).2.2.2 ql2))]⟩
      · replace ql1 := (h_lt _ _).2 ql1
        refine Run.pure hK (seg := [(40, .iload_n 0, 1), (41, .bipush 8, 2), (43, .iushr, 1), (44, .bipush 63, 2), (46, .iand, 1), (47, .iload_n 1, 1), (48, .bipush 8, 2), (50, .iushr, 1), (51, .bipush 63, 2), (53, .iand, 1)]) (by decide +kernel) (pc' := 54) (L' := #[.val (.int x0), .val (.int x1), .val (.int (x0 &&& (3 : Int32)))]) (S' := [(.int ((XT.ushr x1 (8 : Int32)) &&& (63 : Int32))), (.int ((XT.ushr x0 (8 : Int32)) &&& (63 : Int32)))]) rfl ?_
        refine Run.icmp hK (cd := .eq) (o := 5) (by decide +kernel) (by decide) (pc' := 59) rfl (fun qe1 => ?_) (fun qe1 => ?_)
        · replace qe1 := (h_eq _ _).1 qe1
          refine Run.pure hK (seg := [(59, .iload_n 2, 1), (60, .iconst 3, 1)]) (by decide +kernel) (pc' := 61) (L' := #[.val (.int x0), .val (.int x1), .val (.int (x0 &&& (3 : Int32)))]) (S' := [(.int (3 : Int32)), (.int (x0 &&& (3 : Int32)))]) rfl ?_
          refine Run.icmp hK (cd := .lt) (o := 22) (by decide +kernel) (by decide) (pc' := 83) rfl (fun ql2 => ?_) (fun ql2 => ?_)
          · replace ql2 := (h_lt _ _).1 ql2
            refine Run.pure hK (seg := [(83, .iconst 1, 1)]) (by decide +kernel) (pc' := 84) (L' := #[.val (.int x0), .val (.int x1), .val (.int (x0 &&& (3 : Int32)))]) (S' := [(.int (1 : Int32))]) rfl ?_
            exact Run.retw hK (i := .ireturn) rfl (Or.inl ⟨rfl, Or.inr (Or.inl rfl), _, rfl⟩) (by decide +kernel) (by decide) (by decide) ⟨rfl, by rw [if_pos (hq.mpr ⟨qn, (fun z => absurd ql0 z), (fun _ => qe1), (fun z => absurd ql2 z)⟩)]⟩
          · replace ql2 := (h_lt _ _).2 ql2
            refine Run.pure hK (seg := [(64, .iload_n 0, 1), (65, .bipush 14, 2), (67, .iushr, 1), (68, .bipush 63, 2), (70, .iand, 1), (71, .iload_n 1, 1), (72, .bipush 14, 2), (74, .iushr, 1), (75, .bipush 63, 2), (77, .iand, 1)]) (by decide +kernel) (pc' := 78) (L' := #[.val (.int x0), .val (.int x1), .val (.int (x0 &&& (3 : Int32)))]) (S' := [(.int ((XT.ushr x1 (14 : Int32)) &&& (63 : Int32))), (.int ((XT.ushr x0 (14 : Int32)) &&& (63 : Int32)))]) rfl ?_
            refine Run.icmp hK (cd := .eq) (o := 5) (by decide +kernel) (by decide) (pc' := 83) rfl (fun qe2 => ?_) (fun qe2 => ?_)
            · replace qe2 := (h_eq _ _).1 qe2
              refine Run.pure hK (seg := [(83, .iconst 1, 1)]) (by decide +kernel) (pc' := 84) (L' := #[.val (.int x0), .val (.int x1), .val (.int (x0 &&& (3 : Int32)))]) (S' := [(.int (1 : Int32))]) rfl ?_
              exact Run.retw hK (i := .ireturn) rfl (Or.inl ⟨rfl, Or.inr (Or.inl rfl), _, rfl⟩) (by decide +kernel) (by decide) (by decide) ⟨rfl, by rw [if_pos (hq.mpr ⟨qn, (fun z => absurd ql0 z), (fun _ => qe1), (fun _ => qe2)⟩)]⟩
            · replace qe2 := (h_eq _ _).2 qe2
              refine Run.pure hK (seg := [(81, .iconst 0, 1)]) (by decide +kernel) (pc' := 82) (L' := #[.val (.int x0), .val (.int x1), .val (.int (x0 &&& (3 : Int32)))]) (S' := [(.int (0 : Int32))]) rfl ?_
              exact Run.retw hK (i := .ireturn) rfl (Or.inl ⟨rfl, Or.inr (Or.inl rfl), _, rfl⟩) (by decide +kernel) (by decide) (by decide) ⟨rfl, by rw [if_neg (fun z => qe2 ((hq.mp z).2.2.2 ql2))]⟩
        · replace qe1 := (h_eq _ _).2 qe1
          refine Run.pure hK (seg := [(57, .iconst 0, 1)]) (by decide +kernel) (pc' := 58) (L' := #[.val (.int x0), .val (.int x1), .val (.int (x0 &&& (3 : Int32)))]) (S' := [(.int (0 : Int32))]) rfl ?_
          exact Run.retw hK (i := .ireturn) rfl (Or.inl ⟨rfl, Or.inr (Or.inl rfl), _, rfl⟩) (by decide +kernel) (by decide) (by decide) ⟨rfl, by rw [if_neg (fun z => qe1 ((hq.mp z).2.2.1 ql1))]⟩
    · replace ql0 := (h_lt _ _).2 ql0
      refine Run.pure hK (seg := [(18, .iload_n 0, 1), (19, .iconst 2, 1), (20, .iushr, 1), (21, .bipush 63, 2), (23, .iand, 1), (24, .iload_n 1, 1), (25, .iconst 2, 1), (26, .iushr, 1), (27, .bipush 63, 2), (29, .iand, 1)]) (by decide +kernel) (pc' := 30) (L' := #[.val (.int x0), .val (.int x1), .val (.int (x0 &&& (3 : Int32)))]) (S' := [(.int ((XT.ushr x1 (2 : Int32)) &&& (63 : Int32))), (.int ((XT.ushr x0 (2 : Int32)) &&& (63 : Int32)))]) rfl ?_
      refine Run.icmp hK (cd := .eq) (o := 5) (by decide +kernel) (by decide) (pc' := 35) rfl (fun qe0 => ?_) (fun qe0 => ?_)
      · replace qe0 := (h_eq _ _).1 qe0
        refine Run.pure hK (seg := [(35, .iload_n 2, 1), (36, .iconst 2, 1)]) (by decide +kernel) (pc' := 37) (L' := #[.val (.int x0), .val (.int x1), .val (.int (x0 &&& (3 : Int32)))]) (S' := [(.int (2 : Int32)), (.int (x0 &&& (3 : Int32)))]) rfl ?_
        refine Run.icmp hK (cd := .lt) (o := 22) (by decide +kernel) (by decide) (pc' := 59) rfl (fun ql1 => ?_) (fun ql1 => ?_)
        · replace ql1 := (h_lt _ _).1 ql1
          refine Run.pure hK (seg := [(59, .iload_n 2, 1), (60, .iconst 3, 1)]) (by decide +kernel) (pc' := 61) (L' := #[.val (.int x0), .val (.int x1), .val (.int (x0 &&& (3 : Int32)))]) (S' := [(.int (3 : Int32)), (.int (x0 &&& (3 : Int32)))]) rfl ?_
          refine Run.icmp hK (cd := .lt) (o := 22) (by decide +kernel) (by decide) (pc' := 83) rfl (fun ql2 => ?_) (fun ql2 => ?_)
          · replace ql2 := (h_lt _ _).1 ql2
            refine Run.pure hK (seg := [(83, .iconst 1, 1)]) (by decide +kernel) (pc' := 84) (L' := #[.val (.int x0), .val (.int x1), .val (.int (x0 &&& (3 : Int32)))]) (S' := [(.int (1 : Int32))]) rfl ?_
            exact Run.retw hK (i := .ireturn) rfl (Or.inl ⟨rfl, Or.inr (Or.inl rfl), _, rfl⟩) (by decide +kernel) (by decide) (by decide) ⟨rfl, by rw [if_pos (hq.mpr ⟨qn, (fun _ => qe0), (fun z => absurd ql1 z), (fun z => absurd ql2 z)⟩)]⟩
          · replace ql2 := (h_lt _ _).2 ql2
            refine Run.pure hK (seg := [(64, .iload_n 0, 1), (65, .bipush 14, 2), (67, .iushr, 1), (68, .bipush 63, 2), (70, .iand, 1), (71, .iload_n 1, 1), (72, .bipush 14, 2), (74, .iushr, 1), (75, .bipush 63, 2), (77, .iand, 1)]) (by decide +kernel) (pc' := 78) (L' := #[.val (.int x0), .val (.int x1), .val (.int (x0 &&& (3 : Int32)))]) (S' := [(.int ((XT.ushr x1 (14 : Int32)) &&& (63 : Int32))), (.int ((XT.ushr x0 (14 : Int32)) &&& (63 : Int32)))]) rfl ?_
            refine Run.icmp hK (cd := .eq) (o := 5) (by decide +kernel) (by decide) (pc' := 83) rfl (fun qe2 => ?_) (fun qe2 => ?_)
            · replace qe2 := (h_eq _ _).1 qe2
              refine Run.pure hK (seg := [(83, .iconst 1, 1)]) (by decide +kernel) (pc' := 84) (L' := #[.val (.int x0), .val (.int x1), .val (.int (x0 &&& (3 : Int32)))]) (S' := [(.int (1 : Int32))]) rfl ?_
              exact Run.retw hK (i := .ireturn) rfl (Or.inl ⟨rfl, Or.inr (Or.inl rfl), _, rfl⟩) (by decide +kernel) (by decide) (by decide) ⟨rfl, by rw [if_pos (hq.mpr ⟨qn, (fun _ => qe0), (fun z => absurd ql1 z), (fun _ => qe2)⟩)]⟩
            · replace qe2 := (h_eq _ _).2 qe2
              refine Run.pure hK (seg := [(81, .iconst 0, 1)]) (by decide +kernel) (pc' := 82) (L' := #[.val (.int x0), .val (.int x1), .val (.int (x0 &&& (3 : Int32)))]) (S' := [(.int (0 : Int32))]) rfl ?_
              exact Run.retw hK (i := .ireturn) rfl (Or.inl ⟨rfl, Or.inr (Or.inl rfl), _, rfl⟩) (by decide +kernel) (by decide) (by decide) ⟨rfl, by rw [if_neg (fun z => qe2 ((hq.mp z).2.2.2 ql2))]⟩
        · replace ql1 := (h_lt _ _).2 ql1
          refine Run.pure hK (seg := [(40, .iload_n 0, 1), (41, .bipush 8, 2), (43, .iushr, 1), (44, .bipush 63, 2), (46, .iand, 1), (47, .iload_n 1, 1), (48, .bipush 8, 2), (50, .iushr, 1), (51, .bipush 63, 2), (53, .iand, 1)]) (by decide +kernel) (pc' := 54) (L' := #[.val (.int x0), .val (.int x1), .val (.int (x0 &&& (3 : Int32)))]) (S' := [(.int ((XT.ushr x1 (8 : Int32)) &&& (63 : Int32))), (.int ((XT.ushr x0 (8 : Int32)) &&& (63 : Int32)))]) rfl ?_
          refine Run.icmp hK (cd := .eq) (o := 5) (by decide +kernel) (by decide) (pc' := 59) rfl (fun qe1 => ?_) (fun qe1 => ?_)
          · replace qe1 := (h_eq _ _).1 qe1
            refine Run.pure hK (seg := [(59, .iload_n 2, 1), (60, .iconst 3, 1)]) (by decide +kernel) (pc' := 61) (L' := #[.val (.int x0), .val (.int x1), .val (.int (x0 &&& (3 : Int32)))]) (S' := [(.int (3 : Int32)), (.int (x0 &&& (3 : Int32)))]) rfl ?_
            refine Run.icmp hK (cd := .lt) (o := 22) (by decide +kernel) (by decide) (pc' := 83) rfl (fun ql2 => ?_) (fun ql2 => ?_)
            · replace ql2 := (h_lt _ _).1 ql2
              refine Run.pure hK (seg := [(83, .iconst 1, 1)]) (by decide +kernel) (pc' := 84) (L' := #[.val (.int x0), .val (.int x1), .val (.int (x0 &&& (3 : Int32)))]) (S' := [(.int (1 : Int32))]) rfl ?_
              exact Run.retw hK (i := .ireturn) rfl (Or.inl ⟨rfl, Or.inr (Or.inl rfl), _, rfl⟩) (by decide +kernel) (by decide) (by decide) ⟨rfl, by rw [if_pos (hq.mpr ⟨qn, (fun _ => qe0), (fun _ => qe1), (fun z => absurd ql2 z)⟩)]⟩
            · replace ql2 := (h_lt _ _).2 ql2
              refine Run.pure hK (seg := [(64, .iload_n 0, 1), (65, .bipush 14, 2), (67, .iushr, 1), (68, .bipush 63, 2), (70, .iand, 1), (71, .iload_n 1, 1), (72, .bipush 14, 2), (74, .iushr, 1), (75, .bipush 63, 2), (77, .iand, 1)]) (by decide +kernel) (pc' := 78) (L' := #[.val (.int x0), .val (.int x1), .val (.int (x0 &&& (3 : Int32)))]) (S' := [(.int ((XT.ushr x1 (14 : Int32)) &&& (63 : Int32))), (.int ((XT.ushr x0 (14 : Int32)) &&& (63 : Int32)))]) rfl ?_
              refine Run.icmp hK (cd := .eq) (o := 5) (by decide +kernel) (by decide) (pc' := 83) rfl (fun qe2 => ?_) (fun qe2 => ?_)
              · replace qe2 := (h_eq _ _).1 qe2
                refine Run.pure hK (seg := [(83, .iconst 1, 1)]) (by decide +kernel) (pc' := 84) (L' := #[.val (.int x0), .val (.int x1), .val (.int (x0 &&& (3 : Int32)))]) (S' := [(.int (1 : Int32))]) rfl ?_
                exact Run.retw hK (i := .ireturn) rfl (Or.inl ⟨rfl, Or.inr (Or.inl rfl), _, rfl⟩) (by decide +kernel) (by decide) (by decide) ⟨rfl, by rw [if_pos (hq.mpr ⟨qn, (fun _ => qe0), (fun _ => qe1), (fun _ => qe2)⟩)]⟩
              · replace qe2 := (h_eq _ _).2 qe2
                refine Run.pure hK (seg := [(81, .iconst 0, 1)]) (by decide +kernel) (pc' := 82) (L' := #[.val (.int x0), .val (.int x1), .val (.int (x0 &&& (3 : Int32)))]) (S' := [(.int (0 : Int32))]) rfl ?_
                exact Run.retw hK (i := .ireturn) rfl (Or.inl ⟨rfl, Or.inr (Or.inl rfl), _, rfl⟩) (by decide +kernel) (by decide) (by decide) ⟨rfl, by rw [if_neg (fun z => qe2 ((hq.mp z).2.2.2 ql2))]⟩
          · replace qe1 := (h_eq _ _).2 qe1
            refine Run.pure hK (seg := [(57, .iconst 0, 1)]) (by decide +kernel) (pc' := 58) (L' := #[.val (.int x0), .val (.int x1), .val (.int (x0 &&& (3 : Int32)))]) (S' := [(.int (0 : Int32))]) rfl ?_
            exact Run.retw hK (i := .ireturn) rfl (Or.inl ⟨rfl, Or.inr (Or.inl rfl), _, rfl⟩) (by decide +kernel) (by decide) (by decide) ⟨rfl, by rw [if_neg (fun z => qe1 ((hq.mp z).2.2.1 ql1))]⟩
      · replace qe0 := (h_eq _ _).2 qe0
        refine Run.pure hK (seg := [(33, .iconst 0, 1)]) (by decide +kernel) (pc' := 34) (L' := #[.val (.int x0), .val (.int x1), .val (.int (x0 &&& (3 : Int32)))]) (S' := [(.int (0 : Int32))]) rfl ?_
        exact Run.retw hK (i := .ireturn) rfl (Or.inl ⟨rfl, Or.inr (Or.inl rfl), _, rfl⟩) (by decide +kernel) (by decide) (by decide) ⟨rfl, by rw [if_neg (fun z => qe0 ((hq.mp z).2.1 ql0))]⟩
  · replace qn := (h_eq _ _).2 qn
    refine Run.pure hK (seg := [(11, .iconst 0, 1)]) (by decide +kernel) (pc' := 12) (L' := #[.val (.int x0), .val (.int x1), .val (.int (x0 &&& (3 : Int32)))]) (S' := [(.int (0 : Int32))]) rfl ?_
    exact Run.retw hK (i := .ireturn) rfl (Or.inl ⟨rfl, Or.inr (Or.inl rfl), _, rfl⟩) (by decide +kernel) (by decide) (by decide) ⟨rfl, by rw [if_neg (fun z => qn (hq.mp z).1)]⟩
set_option maxRecDepth 65536 in
set_option maxHeartbeats 40000000 in
theorem c_law {l : Launch} {Z : State} {a0 : Array Value} {z0 : Int32} {fm : Value} (G : Env1 Z a0 z0 fm) (i0 i1 i2 i3 : Int32) (i4 : Int64) (i5 : Int32) (IA : ICa Z) (h : Heap) : Ctr Z consts_1 false l tables_1 x code maxLocals ret room_1 #[(.int i0), (.int i1), (.int i2), (.int i3), (.long i4), (.int i5)] h [] (fun v h' => v = some (.int 1)) := by
  obtain ⟨hw, hEL, O2, P5, O4⟩ := id G
  refine Ctr.of_run (a0 := a0) (L0 := #[.val (.int i0), .val (.int i1), .val (.int i2), .val (.int i3), .val (.long i4), .second, .val (.int i5), .unset, .unset, .unset, .unset, .unset, .unset, .unset, .unset, .unset, .unset, .unset, .unset, .unset]) (plainFor_of_name pn_law) hEL (by first | (simp [argsToLocals, Value.category, maxLocals]; done) | rfl) (fun K hK => ?_)
  replace hK : Ok Z consts_1 a0 l "org/osgi/framework/VersionEqualsPinLaw" "law" code 20 (some .boolean) room_1 K := hK
  refine Run.pure hK (seg := [(0, .iload_n 0, 1)]) (by decide +kernel) (pc' := 1) (L' := #[.val (.int i0), .val (.int i1), .val (.int i2), .val (.int i3), .val (.long i4), .second, .val (.int i5), .unset, .unset, .unset, .unset, .unset, .unset, .unset, .unset, .unset, .unset, .unset, .unset, .unset]) (S' := [(.int i0)]) rfl ?_
  refine Run.ldci hK (index := 18) (hw _ (List.mem_of_getElem? (i := 0) rfl)) (by decide +kernel) ?_
  refine Run.pure hK (seg := [(3, .iand, 1), (4, .istore 7, 2)]) (by decide +kernel) (pc' := 6) (L' := #[.val (.int i0), .val (.int i1), .val (.int i2), .val (.int i3), .val (.long i4), .second, .val (.int i5), .val (.int (i0 &&& (2147483647 : Int32))), .unset, .unset, .unset, .unset, .unset, .unset, .unset, .unset, .unset, .unset, .unset, .unset]) (S' := []) rfl ?_
  have g_x1 := nn31 i0
  obtain ⟨x1, e_x1⟩ : ∃ z : Int32, z = (i0 &&& (2147483647 : Int32)) := ⟨_, rfl⟩
  rw [← e_x1] at g_x1 ⊢
  clear e_x1
  refine Run.pure hK (seg := [(6, .iload_n 1, 1)]) (by decide +kernel) (pc' := 7) (L' := #[.val (.int i0), .val (.int i1), .val (.int i2), .val (.int i3), .val (.long i4), .second, .val (.int i5), .val (.int x1), .unset, .unset, .unset, .unset, .unset, .unset, .unset, .unset, .unset, .unset, .unset, .unset]) (S' := [(.int i1)]) rfl ?_
  refine Run.ldci hK (index := 18) (hw _ (List.mem_of_getElem? (i := 0) rfl)) (by decide +kernel) ?_
  refine Run.pure hK (seg := [(9, .iand, 1), (10, .istore 8, 2)]) (by decide +kernel) (pc' := 12) (L' := #[.val (.int i0), .val (.int i1), .val (.int i2), .val (.int i3), .val (.long i4), .second, .val (.int i5), .val (.int x1), .val (.int (i1 &&& (2147483647 : Int32))), .unset, .unset, .unset, .unset, .unset, .unset, .unset, .unset, .unset, .unset, .unset]) (S' := []) rfl ?_
  have g_x2 := nn31 i1
  obtain ⟨x2, e_x2⟩ : ∃ z : Int32, z = (i1 &&& (2147483647 : Int32)) := ⟨_, rfl⟩
  rw [← e_x2] at g_x2 ⊢
  clear e_x2
  refine Run.pure hK (seg := [(12, .iload_n 2, 1)]) (by decide +kernel) (pc' := 13) (L' := #[.val (.int i0), .val (.int i1), .val (.int i2), .val (.int i3), .val (.long i4), .second, .val (.int i5), .val (.int x1), .val (.int x2), .unset, .unset, .unset, .unset, .unset, .unset, .unset, .unset, .unset, .unset, .unset]) (S' := [(.int i2)]) rfl ?_
  refine Run.ldci hK (index := 18) (hw _ (List.mem_of_getElem? (i := 0) rfl)) (by decide +kernel) ?_
  refine Run.pure hK (seg := [(15, .iand, 1), (16, .istore 9, 2)]) (by decide +kernel) (pc' := 18) (L' := #[.val (.int i0), .val (.int i1), .val (.int i2), .val (.int i3), .val (.long i4), .second, .val (.int i5), .val (.int x1), .val (.int x2), .val (.int (i2 &&& (2147483647 : Int32))), .unset, .unset, .unset, .unset, .unset, .unset, .unset, .unset, .unset, .unset]) (S' := []) rfl ?_
  have g_x3 := nn31 i2
  obtain ⟨x3, e_x3⟩ : ∃ z : Int32, z = (i2 &&& (2147483647 : Int32)) := ⟨_, rfl⟩
  rw [← e_x3] at g_x3 ⊢
  clear e_x3
  refine Run.pure hK (seg := [(18, .lload 4, 2), (20, .l2i, 1)]) (by decide +kernel) (pc' := 21) (L' := #[.val (.int i0), .val (.int i1), .val (.int i2), .val (.int i3), .val (.long i4), .second, .val (.int i5), .val (.int x1), .val (.int x2), .val (.int x3), .unset, .unset, .unset, .unset, .unset, .unset, .unset, .unset, .unset, .unset]) (S' := [(.int i4.toInt32)]) rfl ?_
  refine Run.ldci hK (index := 18) (hw _ (List.mem_of_getElem? (i := 0) rfl)) (by decide +kernel) ?_
  refine Run.pure hK (seg := [(23, .iand, 1), (24, .istore 10, 2)]) (by decide +kernel) (pc' := 26) (L' := #[.val (.int i0), .val (.int i1), .val (.int i2), .val (.int i3), .val (.long i4), .second, .val (.int i5), .val (.int x1), .val (.int x2), .val (.int x3), .val (.int (i4.toInt32 &&& (2147483647 : Int32))), .unset, .unset, .unset, .unset, .unset, .unset, .unset, .unset, .unset]) (S' := []) rfl ?_
  have g_d := nn31 i4.toInt32
  obtain ⟨dd, e_d⟩ : ∃ z : Int32, z = (i4.toInt32 &&& (2147483647 : Int32)) := ⟨_, rfl⟩
  rw [← e_d] at g_d ⊢
  clear e_d
  have join : ∀ (r y1 y2 y3 : Int32), ¬ y1 < 0 → ¬ y2 < 0 → ¬ y3 < 0 → Run Z consts_1 false K (fun v h' => v = some (.int 1)) [] h 0 0 94 #[.val (.int i0), .val (.int i1), .val (.int i2), .val (.int i3), .val (.long i4), .second, .val (.int i5), .val (.int x1), .val (.int x2), .val (.int x3), .val (.int dd), .val (.int r), .val (.int y1), .val (.int y2), .val (.int y3), .unset, .unset, .unset, .unset, .unset] [] := by
    intro r y1 y2 y3 g_y1 g_y2 g_y3
    have j133 : ∀ (hh : Heap) (va sa : Addr) (sv : Value) (W : List Addr), Ver Z hh va x1 x2 x3 sa → Str Z hh sa (quF i3) → Ext Z.heap hh → Run Z consts_1 false K (fun v h' => v = some (.int 1)) W hh 9 24 133 #[.val (.int i0), .val (.int i1), .val (.int i2), .val (.int i3), .val (.long i4), .second, .val (.int i5), .val (.int x1), .val (.int x2), .val (.int x3), .val (.int dd), .val (.int r), .val (.int y1), .val (.int y2), .val (.int y3), .val sv, .unset, .unset, .unset, .unset] [(.ref va)] := by
      intro hh va sa sv W Va Sa hO
      refine Run.pure hK (seg := [(133, .astore 16, 2)]) (by decide +kernel) (pc' := 135) (L' := #[.val (.int i0), .val (.int i1), .val (.int i2), .val (.int i3), .val (.long i4), .second, .val (.int i5), .val (.int x1), .val (.int x2), .val (.int x3), .val (.int dd), .val (.int r), .val (.int y1), .val (.int y2), .val (.int y3), .val sv, .val (.ref va), .unset, .unset, .unset]) (S' := []) rfl ?_
      refine Run.new hK (index := 23) (C := "org/osgi/framework/Version") (n := 4) (hw _ (List.mem_of_getElem? (i := 38) rfl)) (hw _ (List.mem_of_getElem? (i := 39) rfl)) (hw _ (List.mem_of_getElem? (i := 40) rfl)) (by decide +kernel) (by decide) (by decide) (fun hb Eb Xb Db => ?_)
      obtain ⟨ab, zb⟩ : ∃ z, z = hh.size := ⟨_, rfl⟩
      rw [← zb]
      rw [← zb] at Xb Db
      refine Run.pure hK (seg := [(138, .dup, 1), (139, .iload 12, 2), (141, .iload 13, 2), (143, .iload 14, 2), (145, .iload 11, 2)]) (by decide +kernel) (pc' := 147) (L' := #[.val (.int i0), .val (.int i1), .val (.int i2), .val (.int i3), .val (.long i4), .second, .val (.int i5), .val (.int x1), .val (.int x2), .val (.int x3), .val (.int dd), .val (.int r), .val (.int y1), .val (.int y2), .val (.int y3), .val sv, .val (.ref va), .unset, .unset, .unset]) (S' := [(.int r), (.int y3), (.int y2), (.int y1), (.ref ab), (.ref ab)]) rfl ?_
      have U1b := Db (Or.inr (hw _ (List.mem_of_getElem? (i := 46) rfl))) (ty := .int) (by decide)
      have U2b := Db (Or.inr (hw _ (List.mem_of_getElem? (i := 48) rfl))) (ty := .int) (by decide)
      have U3b := Db (Or.inr (hw _ (List.mem_of_getElem? (i := 50) rfl))) (ty := .int) (by decide)
      have U4b := Db (Or.inr (hw _ (List.mem_of_getElem? (i := 52) rfl))) (ty := .object "java/lang/String") (by decide)
      refine Run.static hK (index := 19) (y := (⟨"org/osgi/framework/VersionEqualsPinLaw", "qual", "(I)Ljava/lang/String;"⟩ : MethodName)) (Wt := 5) (kc := 6) (ks := 16) (hw _ (List.mem_of_getElem? (i := 1) rfl)) (hw _ (List.mem_of_getElem? (i := 2) rfl)) (hw _ (List.mem_of_getElem? (i := 3) rfl)) (hw _ (List.mem_of_getElem? (i := 4) rfl)) (by decide) (W' := []) (fun _ q => nomatch q) (Ctr.cal (c_qual G r hb) (hw _ (List.mem_of_getElem? (i := 4) rfl)) (hw _ (List.mem_of_getElem? (i := 3) rfl)) (by decide) (by decide)) rfl (argsL := [(.int r)]) (rest := [(.int y3), (.int y2), (.int y1), (.ref ab), (.ref ab)]) (lenOf pd_qual rfl) rfl (Nat.le_of_ble_eq_true rfl) (by decide +kernel) (by decide) (by decide) (fun vq hq qq nq => ?_)
      obtain ⟨sb, rfl, Sb, Yb⟩ := qq
      refine Run.special hK (index := 25) (y := (⟨"org/osgi/framework/Version", "<init>", "(IIILjava/lang/String;)V"⟩ : MethodName)) (Wt := 1) (kc := 2) (ks := 4) rfl (hw _ (List.mem_of_getElem? (i := 41) rfl)) (hw _ (List.mem_of_getElem? (i := 42) rfl)) (hw _ (List.mem_of_getElem? (i := 43) rfl)) (by decide) (a := ab) (W' := []) (fun _ q => nomatch q) (Ctr.cal (c_vref G ab y1 y2 y3 sb hq (by rw [zb]; exact hO.1) (Xb.ext Yb) (U1b.ext Yb) (U2b.ext Yb) (U3b.ext Yb) (U4b.ext Yb) g_y1 g_y2 g_y3 Sb (quF_ok r)) (hw _ (List.mem_of_getElem? (i := 43) rfl)) (hw _ (List.mem_of_getElem? (i := 40) rfl)) (by decide) (by decide)) rfl (argsL := [(.int y1), (.int y2), (.int y3), (.ref sb)]) (rest := [(.ref ab)]) (lenOf pd_vini rfl) rfl (Nat.le_of_ble_eq_true rfl) (by decide +kernel) (by decide) (by decide) (fun vv hv qv nv => ?_)
      obtain ⟨rfl, Kb, s2, Vb, S2⟩ := qv
      have Tb := ext_keep (Ext.tr Eb Yb) Kb (fun x hx => by cases List.mem_singleton.mp hx; rw [zb]; exact Nat.le_refl _)
      have ne : ab ≠ va := fun z => absurd Va.1.lt (by rw [← z, zb]; exact Nat.lt_irrefl _)
      replace Va := Va.ext Tb
      replace Sa := Sa.ext Tb
      refine Run.pure hK (seg := [(153, .astore 17, 2), (155, .iload 6, 2), (157, .iconst 4, 1), (158, .iushr, 1), (159, .iconst 3, 1), (160, .iand, 1), (161, .istore 18, 2)]) (by decide +kernel) (pc' := 163) (L' := #[.val (.int i0), .val (.int i1), .val (.int i2), .val (.int i3), .val (.long i4), .second, .val (.int i5), .val (.int x1), .val (.int x2), .val (.int x3), .val (.int dd), .val (.int r), .val (.int y1), .val (.int y2), .val (.int y3), .val sv, .val (.ref va), .val (.ref ab), .val (.int ((XT.ushr i5 (4 : Int32)) &&& (3 : Int32))), .unset]) (S' := []) rfl ?_
      obtain ⟨md, e_md⟩ : ∃ z : Int32, z = ((XT.ushr i5 (4 : Int32)) &&& (3 : Int32)) := ⟨_, rfl⟩
      rw [← e_md]
      refine Run.pure hK (seg := [(163, .iload 18, 2), (165, .iconst 1, 1)]) (by decide +kernel) (pc' := 166) (L' := #[.val (.int i0), .val (.int i1), .val (.int i2), .val (.int i3), .val (.long i4), .second, .val (.int i5), .val (.int x1), .val (.int x2), .val (.int x3), .val (.int dd), .val (.int r), .val (.int y1), .val (.int y2), .val (.int y3), .val sv, .val (.ref va), .val (.ref ab), .val (.int md), .unset]) (S' := [(.int (1 : Int32)), (.int md)]) rfl ?_
      refine Run.icmp hK (cd := .ne) (o := 11) (by decide +kernel) (by decide) (pc' := 177) rfl (fun qk1 => ?_) (fun qk1 => ?_)
      · replace qk1 := (h_ne _ _).1 qk1
        refine Run.pure hK (seg := [(177, .iload 18, 2), (179, .iconst 2, 1)]) (by decide +kernel) (pc' := 180) (L' := #[.val (.int i0), .val (.int i1), .val (.int i2), .val (.int i3), .val (.long i4), .second, .val (.int i5), .val (.int x1), .val (.int x2), .val (.int x3), .val (.int dd), .val (.int r), .val (.int y1), .val (.int y2), .val (.int y3), .val sv, .val (.ref va), .val (.ref ab), .val (.int md), .unset]) (S' := [(.int (2 : Int32)), (.int md)]) rfl ?_
        refine Run.icmp hK (cd := .ne) (o := 18) (by decide +kernel) (by decide) (pc' := 198) rfl (fun qk2 => ?_) (fun qk2 => ?_)
        · replace qk2 := (h_ne _ _).1 qk2
          refine Run.pure hK (seg := [(198, .iload 18, 2), (200, .iconst 3, 1)]) (by decide +kernel) (pc' := 201) (L' := #[.val (.int i0), .val (.int i1), .val (.int i2), .val (.int i3), .val (.long i4), .second, .val (.int i5), .val (.int x1), .val (.int x2), .val (.int x3), .val (.int dd), .val (.int r), .val (.int y1), .val (.int y2), .val (.int y3), .val sv, .val (.ref va), .val (.ref ab), .val (.int md), .unset]) (S' := [(.int (3 : Int32)), (.int md)]) rfl ?_
          refine Run.icmp hK (cd := .ne) (o := 21) (by decide +kernel) (by decide) (pc' := 222) rfl (fun qk3 => ?_) (fun qk3 => ?_)
          · replace qk3 := (h_ne _ _).1 qk3
            have fin : ∀ ex : Int32, ex = (if x1 = y1 ∧ x2 = y2 ∧ x3 = y3 ∧ quF i3 = quF r then 1 else 0) → Run Z consts_1 false K (fun v h' => v = some (.int 1)) (ab :: W) hv 18 48 259 #[.val (.int i0), .val (.int i1), .val (.int i2), .val (.int i3), .val (.long i4), .second, .val (.int i5), .val (.int x1), .val (.int x2), .val (.int x3), .val (.int dd), .val (.int r), .val (.int y1), .val (.int y2), .val (.int y3), .val sv, .val (.ref va), .val (.ref ab), .val (.int md), .val (.int ex)] [] := by
              intro ex hex
              have h1 : (if y1 = x1 ∧ y2 = x2 ∧ y3 = x3 ∧ quF r = quF i3 then (1 : Int32) else 0) = ex := by
                rw [hex]
                by_cases z : x1 = y1 ∧ x2 = y2 ∧ x3 = y3 ∧ quF i3 = quF r
                · rw [if_pos z, if_pos ⟨z.1.symm, z.2.1.symm, z.2.2.1.symm, z.2.2.2.symm⟩]
                · rw [if_neg z, if_neg (fun y => z ⟨y.1.symm, y.2.1.symm, y.2.2.1.symm, y.2.2.2.symm⟩)]
              refine Run.pure hK (seg := [(259, .aload 16, 2), (261, .aload 17, 2)]) (by decide +kernel) (pc' := 263) (L' := #[.val (.int i0), .val (.int i1), .val (.int i2), .val (.int i3), .val (.long i4), .second, .val (.int i5), .val (.int x1), .val (.int x2), .val (.int x3), .val (.int dd), .val (.int r), .val (.int y1), .val (.int y2), .val (.int y3), .val sv, .val (.ref va), .val (.ref ab), .val (.int md), .val (.int ex)]) (S' := [(.ref ab), (.ref va)]) rfl ?_
              refine Run.virtual hK (index := 28) (y := (⟨"org/osgi/framework/Version", "equals", "(Ljava/lang/Object;)Z"⟩ : MethodName)) (z := (⟨"org/osgi/framework/Version", "equals", "(Ljava/lang/Object;)Z"⟩ : MethodName)) (C := "org/osgi/framework/Version") (Wt := 0) (kc := 0) (ks := 0) (hw _ (List.mem_of_getElem? (i := 89) rfl)) (hw _ (List.mem_of_getElem? (i := 90) rfl)) (nfS (hw _ (List.mem_of_getElem? (i := 92) rfl))) (hw _ (List.mem_of_getElem? (i := 92) rfl)) (hw _ (List.mem_of_getElem? (i := 91) rfl)) (by decide) (a := va) Va.1 (W' := []) (fun _ q => nomatch q) (Ctr.cal (c_eqV G va ab sa s2 x1 x2 x3 y1 y2 y3 hv ne Va Vb Sa S2) (hw _ (List.mem_of_getElem? (i := 93) rfl)) (hw _ (List.mem_of_getElem? (i := 40) rfl)) (by decide) (by decide)) rfl (argsL := [(.ref ab)]) (rest := []) (lenOf pd_eq rfl) rfl (Nat.le_of_ble_eq_true rfl) (by decide +kernel) (by decide) (by decide) (fun vx hx qx nx => ?_)
              obtain ⟨rfl, rfl⟩ := qx
              rw [← hex]
              refine Run.pure hK (seg := [(266, .iload 19, 2)]) (by decide +kernel) (pc' := 268) (L' := #[.val (.int i0), .val (.int i1), .val (.int i2), .val (.int i3), .val (.long i4), .second, .val (.int i5), .val (.int x1), .val (.int x2), .val (.int x3), .val (.int dd), .val (.int r), .val (.int y1), .val (.int y2), .val (.int y3), .val sv, .val (.ref va), .val (.ref ab), .val (.int md), .val (.int ex)]) (S' := [(.int ex), (.int ex)]) rfl ?_
              refine Run.icmp hK (cd := .ne) (o := 19) (by decide +kernel) (by decide) (pc' := 287) rfl (fun q => by replace q := (h_ne _ _).1 q; exact absurd rfl q) (fun _ => ?_)
              refine Run.pure hK (seg := [(271, .aload 17, 2), (273, .aload 16, 2)]) (by decide +kernel) (pc' := 275) (L' := #[.val (.int i0), .val (.int i1), .val (.int i2), .val (.int i3), .val (.long i4), .second, .val (.int i5), .val (.int x1), .val (.int x2), .val (.int x3), .val (.int dd), .val (.int r), .val (.int y1), .val (.int y2), .val (.int y3), .val sv, .val (.ref va), .val (.ref ab), .val (.int md), .val (.int ex)]) (S' := [(.ref va), (.ref ab)]) rfl ?_
              refine Run.virtual hK (index := 28) (y := (⟨"org/osgi/framework/Version", "equals", "(Ljava/lang/Object;)Z"⟩ : MethodName)) (z := (⟨"org/osgi/framework/Version", "equals", "(Ljava/lang/Object;)Z"⟩ : MethodName)) (C := "org/osgi/framework/Version") (Wt := 0) (kc := 0) (ks := 0) (hw _ (List.mem_of_getElem? (i := 89) rfl)) (hw _ (List.mem_of_getElem? (i := 90) rfl)) (nfS (hw _ (List.mem_of_getElem? (i := 92) rfl))) (hw _ (List.mem_of_getElem? (i := 92) rfl)) (hw _ (List.mem_of_getElem? (i := 91) rfl)) (by decide) (a := ab) Vb.1 (W' := []) (fun _ q => nomatch q) (Ctr.cal (c_eqV G ab va s2 sa y1 y2 y3 x1 x2 x3 hx ne.symm Vb Va S2 Sa) (hw _ (List.mem_of_getElem? (i := 93) rfl)) (hw _ (List.mem_of_getElem? (i := 40) rfl)) (by decide) (by decide)) rfl (argsL := [(.ref va)]) (rest := []) (lenOf pd_eq rfl) rfl (Nat.le_of_ble_eq_true rfl) (by decide +kernel) (by decide) (by decide) (fun vy hy qy ny => ?_)
              obtain ⟨rfl, rfl⟩ := qy
              rw [h1]
              refine Run.pure hK (seg := [(278, .iload 19, 2)]) (by decide +kernel) (pc' := 280) (L' := #[.val (.int i0), .val (.int i1), .val (.int i2), .val (.int i3), .val (.long i4), .second, .val (.int i5), .val (.int x1), .val (.int x2), .val (.int x3), .val (.int dd), .val (.int r), .val (.int y1), .val (.int y2), .val (.int y3), .val sv, .val (.ref va), .val (.ref ab), .val (.int md), .val (.int ex)]) (S' := [(.int ex), (.int ex)]) rfl ?_
              refine Run.icmp hK (cd := .ne) (o := 7) (by decide +kernel) (by decide) (pc' := 287) rfl (fun q => by replace q := (h_ne _ _).1 q; exact absurd rfl q) (fun _ => ?_)
              refine Run.pure hK (seg := [(283, .iconst 1, 1), (284, .goto 4, 3)]) (by decide +kernel) (pc' := 288) (L' := #[.val (.int i0), .val (.int i1), .val (.int i2), .val (.int i3), .val (.long i4), .second, .val (.int i5), .val (.int x1), .val (.int x2), .val (.int x3), .val (.int dd), .val (.int r), .val (.int y1), .val (.int y2), .val (.int y3), .val sv, .val (.ref va), .val (.ref ab), .val (.int md), .val (.int ex)]) (S' := [(.int (1 : Int32))]) rfl ?_
              exact Run.retw hK (i := .ireturn) rfl (Or.inl ⟨rfl, Or.inr (Or.inl rfl), _, rfl⟩) (by decide +kernel) (by decide) (by decide) rfl
            refine Run.pure hK (seg := [(222, .iload 7, 2), (224, .iload 12, 2)]) (by decide +kernel) (pc' := 226) (L' := #[.val (.int i0), .val (.int i1), .val (.int i2), .val (.int i3), .val (.long i4), .second, .val (.int i5), .val (.int x1), .val (.int x2), .val (.int x3), .val (.int dd), .val (.int r), .val (.int y1), .val (.int y2), .val (.int y3), .val sv, .val (.ref va), .val (.ref ab), .val (.int md), .unset]) (S' := [(.int y1), (.int x1)]) rfl ?_
            refine Run.icmp hK (cd := .ne) (o := 30) (by decide +kernel) (by decide) (pc' := 256) rfl (fun c1 => ?_) (fun c1 => ?_)
            · replace c1 := (h_ne _ _).1 c1
              refine Run.pure hK (seg := [(256, .iconst 0, 1), (257, .istore 19, 2)]) (by decide +kernel) (pc' := 259) (L' := #[.val (.int i0), .val (.int i1), .val (.int i2), .val (.int i3), .val (.long i4), .second, .val (.int i5), .val (.int x1), .val (.int x2), .val (.int x3), .val (.int dd), .val (.int r), .val (.int y1), .val (.int y2), .val (.int y3), .val sv, .val (.ref va), .val (.ref ab), .val (.int md), .val (.int (0 : Int32))]) (S' := []) rfl ?_
              exact fin 0 (by rw [if_neg (fun z => c1 z.1)])
            · replace c1 := (h_ne _ _).2 c1
              refine Run.pure hK (seg := [(229, .iload 8, 2), (231, .iload 13, 2)]) (by decide +kernel) (pc' := 233) (L' := #[.val (.int i0), .val (.int i1), .val (.int i2), .val (.int i3), .val (.long i4), .second, .val (.int i5), .val (.int x1), .val (.int x2), .val (.int x3), .val (.int dd), .val (.int r), .val (.int y1), .val (.int y2), .val (.int y3), .val sv, .val (.ref va), .val (.ref ab), .val (.int md), .unset]) (S' := [(.int y2), (.int x2)]) rfl ?_
              refine Run.icmp hK (cd := .ne) (o := 23) (by decide +kernel) (by decide) (pc' := 256) rfl (fun c2 => ?_) (fun c2 => ?_)
              · replace c2 := (h_ne _ _).1 c2
                refine Run.pure hK (seg := [(256, .iconst 0, 1), (257, .istore 19, 2)]) (by decide +kernel) (pc' := 259) (L' := #[.val (.int i0), .val (.int i1), .val (.int i2), .val (.int i3), .val (.long i4), .second, .val (.int i5), .val (.int x1), .val (.int x2), .val (.int x3), .val (.int dd), .val (.int r), .val (.int y1), .val (.int y2), .val (.int y3), .val sv, .val (.ref va), .val (.ref ab), .val (.int md), .val (.int (0 : Int32))]) (S' := []) rfl ?_
                exact fin 0 (by rw [if_neg (fun z => c2 z.2.1)])
              · replace c2 := (h_ne _ _).2 c2
                refine Run.pure hK (seg := [(236, .iload 9, 2), (238, .iload 14, 2)]) (by decide +kernel) (pc' := 240) (L' := #[.val (.int i0), .val (.int i1), .val (.int i2), .val (.int i3), .val (.long i4), .second, .val (.int i5), .val (.int x1), .val (.int x2), .val (.int x3), .val (.int dd), .val (.int r), .val (.int y1), .val (.int y2), .val (.int y3), .val sv, .val (.ref va), .val (.ref ab), .val (.int md), .unset]) (S' := [(.int y3), (.int x3)]) rfl ?_
                refine Run.icmp hK (cd := .ne) (o := 16) (by decide +kernel) (by decide) (pc' := 256) rfl (fun c3 => ?_) (fun c3 => ?_)
                · replace c3 := (h_ne _ _).1 c3
                  refine Run.pure hK (seg := [(256, .iconst 0, 1), (257, .istore 19, 2)]) (by decide +kernel) (pc' := 259) (L' := #[.val (.int i0), .val (.int i1), .val (.int i2), .val (.int i3), .val (.long i4), .second, .val (.int i5), .val (.int x1), .val (.int x2), .val (.int x3), .val (.int dd), .val (.int r), .val (.int y1), .val (.int y2), .val (.int y3), .val sv, .val (.ref va), .val (.ref ab), .val (.int md), .val (.int (0 : Int32))]) (S' := []) rfl ?_
                  exact fin 0 (by rw [if_neg (fun z => c3 z.2.2.1)])
                · replace c3 := (h_ne _ _).2 c3
                  refine Run.pure hK (seg := [(243, .iload_n 3, 1), (244, .iload 11, 2)]) (by decide +kernel) (pc' := 246) (L' := #[.val (.int i0), .val (.int i1), .val (.int i2), .val (.int i3), .val (.long i4), .second, .val (.int i5), .val (.int x1), .val (.int x2), .val (.int x3), .val (.int dd), .val (.int r), .val (.int y1), .val (.int y2), .val (.int y3), .val sv, .val (.ref va), .val (.ref ab), .val (.int md), .unset]) (S' := [(.int r), (.int i3)]) rfl ?_
                  refine Run.static hK (index := 38) (y := (⟨"org/osgi/framework/VersionEqualsPinLaw", "sameQual", "(II)Z"⟩ : MethodName)) (Wt := 0) (kc := 0) (ks := 0) (hw _ (List.mem_of_getElem? (i := 123) rfl)) (hw _ (List.mem_of_getElem? (i := 124) rfl)) (hw _ (List.mem_of_getElem? (i := 3) rfl)) (hw _ (List.mem_of_getElem? (i := 125) rfl)) (by decide) (W' := []) (fun _ q => nomatch q) (Ctr.cal (c_same G i3 r hv) (hw _ (List.mem_of_getElem? (i := 125) rfl)) (hw _ (List.mem_of_getElem? (i := 3) rfl)) (by decide) (by decide)) rfl (argsL := [(.int i3), (.int r)]) (rest := []) (lenOf pd_same rfl) rfl (Nat.le_of_ble_eq_true rfl) (by decide +kernel) (by decide) (by decide) (fun vm hm qm nm => ?_)
                  obtain ⟨rfl, rfl⟩ := qm
                  by_cases qs : quF i3 = quF r
                  · rw [if_pos qs]
                    refine Run.ifz hK (cd := .eq) (o := 7) (by decide +kernel) (by decide) (pc' := 256) rfl (fun q => by replace q := (h_eq _ _).1 q; exact absurd q (by decide)) (fun _ => ?_)
                    refine Run.pure hK (seg := [(252, .iconst 1, 1), (253, .goto 4, 3), (257, .istore 19, 2)]) (by decide +kernel) (pc' := 259) (L' := #[.val (.int i0), .val (.int i1), .val (.int i2), .val (.int i3), .val (.long i4), .second, .val (.int i5), .val (.int x1), .val (.int x2), .val (.int x3), .val (.int dd), .val (.int r), .val (.int y1), .val (.int y2), .val (.int y3), .val sv, .val (.ref va), .val (.ref ab), .val (.int md), .val (.int (1 : Int32))]) (S' := []) rfl ?_
                    exact fin _ (by rw [if_pos ⟨c1, c2, c3, qs⟩])
                  · rw [if_neg qs]
                    refine Run.ifz hK (cd := .eq) (o := 7) (by decide +kernel) (by decide) (pc' := 256) rfl (fun _ => ?_) (fun q => by replace q := (h_eq _ _).2 q; exact absurd q (by decide))
                    refine Run.pure hK (seg := [(256, .iconst 0, 1), (257, .istore 19, 2)]) (by decide +kernel) (pc' := 259) (L' := #[.val (.int i0), .val (.int i1), .val (.int i2), .val (.int i3), .val (.long i4), .second, .val (.int i5), .val (.int x1), .val (.int x2), .val (.int x3), .val (.int dd), .val (.int r), .val (.int y1), .val (.int y2), .val (.int y3), .val sv, .val (.ref va), .val (.ref ab), .val (.int md), .val (.int (0 : Int32))]) (S' := []) rfl ?_
                    exact fin _ (by rw [if_neg (fun z => qs z.2.2.2)])
          · replace qk3 := (h_ne _ _).2 qk3
            refine Run.pure hK (seg := [(204, .aload 16, 2), (206, .iload_n 0, 1)]) (by decide +kernel) (pc' := 207) (L' := #[.val (.int i0), .val (.int i1), .val (.int i2), .val (.int i3), .val (.long i4), .second, .val (.int i5), .val (.int x1), .val (.int x2), .val (.int x3), .val (.int dd), .val (.int r), .val (.int y1), .val (.int y2), .val (.int y3), .val sv, .val (.ref va), .val (.ref ab), .val (.int md), .unset]) (S' := [(.int i0), (.ref va)]) rfl ?_
            refine Run.static hK (index := 32) (y := (⟨"java/lang/Integer", "valueOf", "(I)Ljava/lang/Integer;"⟩ : MethodName)) (Wt := 1) (kc := 1) (ks := 1) (hw _ (List.mem_of_getElem? (i := 99) rfl)) (hw _ (List.mem_of_getElem? (i := 100) rfl)) (hw _ (List.mem_of_getElem? (i := 101) rfl)) (hw _ (List.mem_of_getElem? (i := 102) rfl)) (by decide) (W' := []) (fun _ q => nomatch q) (Ctr.cal (c_ival G i0 hv IA) (hw _ (List.mem_of_getElem? (i := 102) rfl)) (hw _ (List.mem_of_getElem? (i := 101) rfl)) (by decide) (by decide)) rfl (argsL := [(.int i0)]) (rest := [(.ref va)]) (lenOf pd_ival rfl) rfl (Nat.le_of_ble_eq_true rfl) (by decide +kernel) (by decide) (by decide) (fun vi hi qi ni => ?_)
            obtain ⟨ii, rfl, Xi, Yi⟩ := qi
            refine Run.virtual hK (index := 28) (y := (⟨"org/osgi/framework/Version", "equals", "(Ljava/lang/Object;)Z"⟩ : MethodName)) (z := (⟨"org/osgi/framework/Version", "equals", "(Ljava/lang/Object;)Z"⟩ : MethodName)) (C := "org/osgi/framework/Version") (Wt := 0) (kc := 0) (ks := 0) (hw _ (List.mem_of_getElem? (i := 89) rfl)) (hw _ (List.mem_of_getElem? (i := 90) rfl)) (nfS (hw _ (List.mem_of_getElem? (i := 92) rfl))) (hw _ (List.mem_of_getElem? (i := 92) rfl)) (hw _ (List.mem_of_getElem? (i := 91) rfl)) (by decide) (a := va) (Va.1.ext Yi) (W' := []) (fun _ q => nomatch q) (Ctr.cal (c_eqI G va ii hi (Va.1.ext Yi) Xi) (hw _ (List.mem_of_getElem? (i := 93) rfl)) (hw _ (List.mem_of_getElem? (i := 40) rfl)) (by decide) (by decide)) rfl (argsL := [(.ref ii)]) (rest := []) (lenOf pd_eq rfl) rfl (Nat.le_of_ble_eq_true rfl) (by decide +kernel) (by decide) (by decide) (fun ve he qe ne => ?_)
            obtain ⟨rfl, rfl⟩ := qe
            refine Run.ifz hK (cd := .ne) (o := 7) (by decide +kernel) (by decide) (pc' := 220) rfl (fun q => by replace q := (h_ne _ _).1 q; exact absurd rfl q) (fun _ => ?_)
            refine Run.pure hK (seg := [(216, .iconst 1, 1), (217, .goto 4, 3)]) (by decide +kernel) (pc' := 221) (L' := #[.val (.int i0), .val (.int i1), .val (.int i2), .val (.int i3), .val (.long i4), .second, .val (.int i5), .val (.int x1), .val (.int x2), .val (.int x3), .val (.int dd), .val (.int r), .val (.int y1), .val (.int y2), .val (.int y3), .val sv, .val (.ref va), .val (.ref ab), .val (.int md), .unset]) (S' := [(.int (1 : Int32))]) rfl ?_
            exact Run.retw hK (i := .ireturn) rfl (Or.inl ⟨rfl, Or.inr (Or.inl rfl), _, rfl⟩) (by decide +kernel) (by decide) (by decide) rfl
        · replace qk2 := (h_ne _ _).2 qk2
          refine Run.pure hK (seg := [(183, .aload 16, 2), (185, .aconst_null, 1)]) (by decide +kernel) (pc' := 186) (L' := #[.val (.int i0), .val (.int i1), .val (.int i2), .val (.int i3), .val (.long i4), .second, .val (.int i5), .val (.int x1), .val (.int x2), .val (.int x3), .val (.int dd), .val (.int r), .val (.int y1), .val (.int y2), .val (.int y3), .val sv, .val (.ref va), .val (.ref ab), .val (.int md), .unset]) (S' := [.null, (.ref va)]) rfl ?_
          refine Run.virtual hK (index := 28) (y := (⟨"org/osgi/framework/Version", "equals", "(Ljava/lang/Object;)Z"⟩ : MethodName)) (z := (⟨"org/osgi/framework/Version", "equals", "(Ljava/lang/Object;)Z"⟩ : MethodName)) (C := "org/osgi/framework/Version") (Wt := 0) (kc := 0) (ks := 0) (hw _ (List.mem_of_getElem? (i := 89) rfl)) (hw _ (List.mem_of_getElem? (i := 90) rfl)) (nfS (hw _ (List.mem_of_getElem? (i := 92) rfl))) (hw _ (List.mem_of_getElem? (i := 92) rfl)) (hw _ (List.mem_of_getElem? (i := 91) rfl)) (by decide) (a := va) Va.1 (W' := []) (fun _ q => nomatch q) (Ctr.cal (c_eqN G va hv) (hw _ (List.mem_of_getElem? (i := 93) rfl)) (hw _ (List.mem_of_getElem? (i := 40) rfl)) (by decide) (by decide)) rfl (argsL := [.null]) (rest := []) (lenOf pd_eq rfl) rfl (Nat.le_of_ble_eq_true rfl) (by decide +kernel) (by decide) (by decide) (fun ve he qe ne => ?_)
          obtain ⟨rfl, rfl⟩ := qe
          refine Run.ifz hK (cd := .ne) (o := 7) (by decide +kernel) (by decide) (pc' := 196) rfl (fun q => by replace q := (h_ne _ _).1 q; exact absurd rfl q) (fun _ => ?_)
          refine Run.pure hK (seg := [(192, .iconst 1, 1), (193, .goto 4, 3)]) (by decide +kernel) (pc' := 197) (L' := #[.val (.int i0), .val (.int i1), .val (.int i2), .val (.int i3), .val (.long i4), .second, .val (.int i5), .val (.int x1), .val (.int x2), .val (.int x3), .val (.int dd), .val (.int r), .val (.int y1), .val (.int y2), .val (.int y3), .val sv, .val (.ref va), .val (.ref ab), .val (.int md), .unset]) (S' := [(.int (1 : Int32))]) rfl ?_
          exact Run.retw hK (i := .ireturn) rfl (Or.inl ⟨rfl, Or.inr (Or.inl rfl), _, rfl⟩) (by decide +kernel) (by decide) (by decide) rfl
      · replace qk1 := (h_ne _ _).2 qk1
        refine Run.pure hK (seg := [(169, .aload 16, 2), (171, .aload 16, 2)]) (by decide +kernel) (pc' := 173) (L' := #[.val (.int i0), .val (.int i1), .val (.int i2), .val (.int i3), .val (.long i4), .second, .val (.int i5), .val (.int x1), .val (.int x2), .val (.int x3), .val (.int dd), .val (.int r), .val (.int y1), .val (.int y2), .val (.int y3), .val sv, .val (.ref va), .val (.ref ab), .val (.int md), .unset]) (S' := [(.ref va), (.ref va)]) rfl ?_
        refine Run.virtual hK (index := 28) (y := (⟨"org/osgi/framework/Version", "equals", "(Ljava/lang/Object;)Z"⟩ : MethodName)) (z := (⟨"org/osgi/framework/Version", "equals", "(Ljava/lang/Object;)Z"⟩ : MethodName)) (C := "org/osgi/framework/Version") (Wt := 0) (kc := 0) (ks := 0) (hw _ (List.mem_of_getElem? (i := 89) rfl)) (hw _ (List.mem_of_getElem? (i := 90) rfl)) (nfS (hw _ (List.mem_of_getElem? (i := 92) rfl))) (hw _ (List.mem_of_getElem? (i := 92) rfl)) (hw _ (List.mem_of_getElem? (i := 91) rfl)) (by decide) (a := va) Va.1 (W' := []) (fun _ q => nomatch q) (Ctr.cal (c_eqT G va hv) (hw _ (List.mem_of_getElem? (i := 93) rfl)) (hw _ (List.mem_of_getElem? (i := 40) rfl)) (by decide) (by decide)) rfl (argsL := [(.ref va)]) (rest := []) (lenOf pd_eq rfl) rfl (Nat.le_of_ble_eq_true rfl) (by decide +kernel) (by decide) (by decide) (fun ve he qe ne => ?_)
        obtain ⟨rfl, rfl⟩ := qe
        exact Run.retw hK (i := .ireturn) rfl (Or.inl ⟨rfl, Or.inr (Or.inl rfl), _, rfl⟩) (by decide +kernel) (by decide) (by decide) rfl
    refine Run.pure hK (seg := [(94, .iload_n 3, 1), (95, .iconst 3, 1), (96, .iand, 1)]) (by decide +kernel) (pc' := 97) (L' := #[.val (.int i0), .val (.int i1), .val (.int i2), .val (.int i3), .val (.long i4), .second, .val (.int i5), .val (.int x1), .val (.int x2), .val (.int x3), .val (.int dd), .val (.int r), .val (.int y1), .val (.int y2), .val (.int y3), .unset, .unset, .unset, .unset, .unset]) (S' := [(.int (i3 &&& (3 : Int32)))]) rfl ?_
    refine Run.ifz hK (cd := .ne) (o := 15) (by decide +kernel) (by decide) (pc' := 112) rfl (fun qz => ?_) (fun qz => ?_)
    · replace qz := (h_ne _ _).1 qz
      refine Run.pure hK (seg := [(112, .iload_n 3, 1)]) (by decide +kernel) (pc' := 113) (L' := #[.val (.int i0), .val (.int i1), .val (.int i2), .val (.int i3), .val (.long i4), .second, .val (.int i5), .val (.int x1), .val (.int x2), .val (.int x3), .val (.int dd), .val (.int r), .val (.int y1), .val (.int y2), .val (.int y3), .unset, .unset, .unset, .unset, .unset]) (S' := [(.int i3)]) rfl ?_
      refine Run.static hK (index := 19) (y := (⟨"org/osgi/framework/VersionEqualsPinLaw", "qual", "(I)Ljava/lang/String;"⟩ : MethodName)) (Wt := 0) (kc := 6) (ks := 16) (hw _ (List.mem_of_getElem? (i := 1) rfl)) (hw _ (List.mem_of_getElem? (i := 2) rfl)) (hw _ (List.mem_of_getElem? (i := 3) rfl)) (hw _ (List.mem_of_getElem? (i := 4) rfl)) (by decide) (W' := []) (fun _ q => nomatch q) (Ctr.cal (c_qual G i3 h) (hw _ (List.mem_of_getElem? (i := 4) rfl)) (hw _ (List.mem_of_getElem? (i := 3) rfl)) (by decide) (by decide)) rfl (argsL := [(.int i3)]) (rest := []) (lenOf pd_qual rfl) rfl (Nat.le_of_ble_eq_true rfl) (by decide +kernel) (by decide) (by decide) (fun vq1 hq1 qq1 nq1 => ?_)
      obtain ⟨sr, rfl, Sr, Yr⟩ := qq1
      refine Run.pure hK (seg := [(116, .astore 15, 2)]) (by decide +kernel) (pc' := 118) (L' := #[.val (.int i0), .val (.int i1), .val (.int i2), .val (.int i3), .val (.long i4), .second, .val (.int i5), .val (.int x1), .val (.int x2), .val (.int x3), .val (.int dd), .val (.int r), .val (.int y1), .val (.int y2), .val (.int y3), .val (.ref sr), .unset, .unset, .unset, .unset]) (S' := []) rfl ?_
      refine Run.old (fun hO => ?_)
      refine Run.new hK (index := 23) (C := "org/osgi/framework/Version") (n := 4) (hw _ (List.mem_of_getElem? (i := 38) rfl)) (hw _ (List.mem_of_getElem? (i := 39) rfl)) (hw _ (List.mem_of_getElem? (i := 40) rfl)) (by decide +kernel) (by decide) (by decide) (fun ha Ea Xa Da => ?_)
      obtain ⟨aa, za⟩ : ∃ z, z = hq1.size := ⟨_, rfl⟩
      rw [← za]
      rw [← za] at Xa Da
      refine Run.pure hK (seg := [(121, .dup, 1), (122, .iload 7, 2), (124, .iload 8, 2), (126, .iload 9, 2), (128, .aload 15, 2)]) (by decide +kernel) (pc' := 130) (L' := #[.val (.int i0), .val (.int i1), .val (.int i2), .val (.int i3), .val (.long i4), .second, .val (.int i5), .val (.int x1), .val (.int x2), .val (.int x3), .val (.int dd), .val (.int r), .val (.int y1), .val (.int y2), .val (.int y3), .val (.ref sr), .unset, .unset, .unset, .unset]) (S' := [(.ref sr), (.int x3), (.int x2), (.int x1), (.ref aa), (.ref aa)]) rfl ?_
      have U1a := Da (Or.inr (hw _ (List.mem_of_getElem? (i := 46) rfl))) (ty := .int) (by decide)
      have U2a := Da (Or.inr (hw _ (List.mem_of_getElem? (i := 48) rfl))) (ty := .int) (by decide)
      have U3a := Da (Or.inr (hw _ (List.mem_of_getElem? (i := 50) rfl))) (ty := .int) (by decide)
      have U4a := Da (Or.inr (hw _ (List.mem_of_getElem? (i := 52) rfl))) (ty := .object "java/lang/String") (by decide)
      refine Run.special hK (index := 25) (y := (⟨"org/osgi/framework/Version", "<init>", "(IIILjava/lang/String;)V"⟩ : MethodName)) (Wt := 1) (kc := 2) (ks := 4) rfl (hw _ (List.mem_of_getElem? (i := 41) rfl)) (hw _ (List.mem_of_getElem? (i := 42) rfl)) (hw _ (List.mem_of_getElem? (i := 43) rfl)) (by decide) (a := aa) (W' := []) (fun _ q => nomatch q) (Ctr.cal (c_vref G aa x1 x2 x3 sr ha (by rw [za]; exact hO.1) Xa U1a U2a U3a U4a g_x1 g_x2 g_x3 (Sr.ext Ea) (quF_ok i3)) (hw _ (List.mem_of_getElem? (i := 43) rfl)) (hw _ (List.mem_of_getElem? (i := 40) rfl)) (by decide) (by decide)) rfl (argsL := [(.int x1), (.int x2), (.int x3), (.ref sr)]) (rest := [(.ref aa)]) (lenOf pd_vini rfl) rfl (Nat.le_of_ble_eq_true rfl) (by decide +kernel) (by decide) (by decide) (fun vu hu qu nu => ?_)
      obtain ⟨rfl, Ka, s1, Va, S1⟩ := qu
      refine Run.old (fun hO2 => ?_)
      exact Run.mono (j133 _ aa s1 _ _ Va S1 hO2) (by decide) (by decide)
    · replace qz := (h_ne _ _).2 qz
      refine Run.pure hK (seg := [(100, .iload 6, 2), (102, .bipush 64, 2), (104, .iand, 1)]) (by decide +kernel) (pc' := 105) (L' := #[.val (.int i0), .val (.int i1), .val (.int i2), .val (.int i3), .val (.long i4), .second, .val (.int i5), .val (.int x1), .val (.int x2), .val (.int x3), .val (.int dd), .val (.int r), .val (.int y1), .val (.int y2), .val (.int y3), .unset, .unset, .unset, .unset, .unset]) (S' := [(.int (i5 &&& (64 : Int32)))]) rfl ?_
      refine Run.ifz hK (cd := .eq) (o := 7) (by decide +kernel) (by decide) (pc' := 112) rfl (fun q64 => ?_) (fun q64 => ?_)
      · replace q64 := (h_eq _ _).1 q64
        refine Run.pure hK (seg := [(112, .iload_n 3, 1)]) (by decide +kernel) (pc' := 113) (L' := #[.val (.int i0), .val (.int i1), .val (.int i2), .val (.int i3), .val (.long i4), .second, .val (.int i5), .val (.int x1), .val (.int x2), .val (.int x3), .val (.int dd), .val (.int r), .val (.int y1), .val (.int y2), .val (.int y3), .unset, .unset, .unset, .unset, .unset]) (S' := [(.int i3)]) rfl ?_
        refine Run.static hK (index := 19) (y := (⟨"org/osgi/framework/VersionEqualsPinLaw", "qual", "(I)Ljava/lang/String;"⟩ : MethodName)) (Wt := 0) (kc := 6) (ks := 16) (hw _ (List.mem_of_getElem? (i := 1) rfl)) (hw _ (List.mem_of_getElem? (i := 2) rfl)) (hw _ (List.mem_of_getElem? (i := 3) rfl)) (hw _ (List.mem_of_getElem? (i := 4) rfl)) (by decide) (W' := []) (fun _ q => nomatch q) (Ctr.cal (c_qual G i3 h) (hw _ (List.mem_of_getElem? (i := 4) rfl)) (hw _ (List.mem_of_getElem? (i := 3) rfl)) (by decide) (by decide)) rfl (argsL := [(.int i3)]) (rest := []) (lenOf pd_qual rfl) rfl (Nat.le_of_ble_eq_true rfl) (by decide +kernel) (by decide) (by decide) (fun vq1 hq1 qq1 nq1 => ?_)
        obtain ⟨sr, rfl, Sr, Yr⟩ := qq1
        refine Run.pure hK (seg := [(116, .astore 15, 2)]) (by decide +kernel) (pc' := 118) (L' := #[.val (.int i0), .val (.int i1), .val (.int i2), .val (.int i3), .val (.long i4), .second, .val (.int i5), .val (.int x1), .val (.int x2), .val (.int x3), .val (.int dd), .val (.int r), .val (.int y1), .val (.int y2), .val (.int y3), .val (.ref sr), .unset, .unset, .unset, .unset]) (S' := []) rfl ?_
        refine Run.old (fun hO => ?_)
        refine Run.new hK (index := 23) (C := "org/osgi/framework/Version") (n := 4) (hw _ (List.mem_of_getElem? (i := 38) rfl)) (hw _ (List.mem_of_getElem? (i := 39) rfl)) (hw _ (List.mem_of_getElem? (i := 40) rfl)) (by decide +kernel) (by decide) (by decide) (fun ha Ea Xa Da => ?_)
        obtain ⟨aa, za⟩ : ∃ z, z = hq1.size := ⟨_, rfl⟩
        rw [← za]
        rw [← za] at Xa Da
        refine Run.pure hK (seg := [(121, .dup, 1), (122, .iload 7, 2), (124, .iload 8, 2), (126, .iload 9, 2), (128, .aload 15, 2)]) (by decide +kernel) (pc' := 130) (L' := #[.val (.int i0), .val (.int i1), .val (.int i2), .val (.int i3), .val (.long i4), .second, .val (.int i5), .val (.int x1), .val (.int x2), .val (.int x3), .val (.int dd), .val (.int r), .val (.int y1), .val (.int y2), .val (.int y3), .val (.ref sr), .unset, .unset, .unset, .unset]) (S' := [(.ref sr), (.int x3), (.int x2), (.int x1), (.ref aa), (.ref aa)]) rfl ?_
        have U1a := Da (Or.inr (hw _ (List.mem_of_getElem? (i := 46) rfl))) (ty := .int) (by decide)
        have U2a := Da (Or.inr (hw _ (List.mem_of_getElem? (i := 48) rfl))) (ty := .int) (by decide)
        have U3a := Da (Or.inr (hw _ (List.mem_of_getElem? (i := 50) rfl))) (ty := .int) (by decide)
        have U4a := Da (Or.inr (hw _ (List.mem_of_getElem? (i := 52) rfl))) (ty := .object "java/lang/String") (by decide)
        refine Run.special hK (index := 25) (y := (⟨"org/osgi/framework/Version", "<init>", "(IIILjava/lang/String;)V"⟩ : MethodName)) (Wt := 1) (kc := 2) (ks := 4) rfl (hw _ (List.mem_of_getElem? (i := 41) rfl)) (hw _ (List.mem_of_getElem? (i := 42) rfl)) (hw _ (List.mem_of_getElem? (i := 43) rfl)) (by decide) (a := aa) (W' := []) (fun _ q => nomatch q) (Ctr.cal (c_vref G aa x1 x2 x3 sr ha (by rw [za]; exact hO.1) Xa U1a U2a U3a U4a g_x1 g_x2 g_x3 (Sr.ext Ea) (quF_ok i3)) (hw _ (List.mem_of_getElem? (i := 43) rfl)) (hw _ (List.mem_of_getElem? (i := 40) rfl)) (by decide) (by decide)) rfl (argsL := [(.int x1), (.int x2), (.int x3), (.ref sr)]) (rest := [(.ref aa)]) (lenOf pd_vini rfl) rfl (Nat.le_of_ble_eq_true rfl) (by decide +kernel) (by decide) (by decide) (fun vu hu qu nu => ?_)
        obtain ⟨rfl, Ka, s1, Va, S1⟩ := qu
        refine Run.old (fun hO2 => ?_)
        exact Run.mono (j133 _ aa s1 _ _ Va S1 hO2) (by decide) (by decide)
      · replace q64 := (h_eq _ _).2 q64
        refine Run.pure hK (seg := [(108, .aconst_null, 1), (109, .goto 7, 3), (116, .astore 15, 2)]) (by decide +kernel) (pc' := 118) (L' := #[.val (.int i0), .val (.int i1), .val (.int i2), .val (.int i3), .val (.long i4), .second, .val (.int i5), .val (.int x1), .val (.int x2), .val (.int x3), .val (.int dd), .val (.int r), .val (.int y1), .val (.int y2), .val (.int y3), .val .null, .unset, .unset, .unset, .unset]) (S' := []) rfl ?_
        refine Run.old (fun hO => ?_)
        refine Run.new hK (index := 23) (C := "org/osgi/framework/Version") (n := 4) (hw _ (List.mem_of_getElem? (i := 38) rfl)) (hw _ (List.mem_of_getElem? (i := 39) rfl)) (hw _ (List.mem_of_getElem? (i := 40) rfl)) (by decide +kernel) (by decide) (by decide) (fun ha Ea Xa Da => ?_)
        obtain ⟨aa, za⟩ : ∃ z, z = h.size := ⟨_, rfl⟩
        rw [← za]
        rw [← za] at Xa Da
        refine Run.pure hK (seg := [(121, .dup, 1), (122, .iload 7, 2), (124, .iload 8, 2), (126, .iload 9, 2), (128, .aload 15, 2)]) (by decide +kernel) (pc' := 130) (L' := #[.val (.int i0), .val (.int i1), .val (.int i2), .val (.int i3), .val (.long i4), .second, .val (.int i5), .val (.int x1), .val (.int x2), .val (.int x3), .val (.int dd), .val (.int r), .val (.int y1), .val (.int y2), .val (.int y3), .val .null, .unset, .unset, .unset, .unset]) (S' := [.null, (.int x3), (.int x2), (.int x1), (.ref aa), (.ref aa)]) rfl ?_
        have U1a := Da (Or.inr (hw _ (List.mem_of_getElem? (i := 46) rfl))) (ty := .int) (by decide)
        have U2a := Da (Or.inr (hw _ (List.mem_of_getElem? (i := 48) rfl))) (ty := .int) (by decide)
        have U3a := Da (Or.inr (hw _ (List.mem_of_getElem? (i := 50) rfl))) (ty := .int) (by decide)
        have U4a := Da (Or.inr (hw _ (List.mem_of_getElem? (i := 52) rfl))) (ty := .object "java/lang/String") (by decide)
        refine Run.special hK (index := 25) (y := (⟨"org/osgi/framework/Version", "<init>", "(IIILjava/lang/String;)V"⟩ : MethodName)) (Wt := 1) (kc := 2) (ks := 4) rfl (hw _ (List.mem_of_getElem? (i := 41) rfl)) (hw _ (List.mem_of_getElem? (i := 42) rfl)) (hw _ (List.mem_of_getElem? (i := 43) rfl)) (by decide) (a := aa) (W' := []) (fun _ q => nomatch q) (Ctr.cal (c_vnul G aa x1 x2 x3 ha (by rw [za]; exact hO.1) Xa U1a U2a U3a U4a g_x1 g_x2 g_x3) (hw _ (List.mem_of_getElem? (i := 43) rfl)) (hw _ (List.mem_of_getElem? (i := 40) rfl)) (by decide) (by decide)) rfl (argsL := [(.int x1), (.int x2), (.int x3), .null]) (rest := [(.ref aa)]) (lenOf pd_vini rfl) rfl (Nat.le_of_ble_eq_true rfl) (by decide +kernel) (by decide) (by decide) (fun vu hu qu nu => ?_)
        obtain ⟨rfl, Ka, s1, Va, S1⟩ := qu
        refine Run.old (fun hO2 => ?_)
        exact Run.mono (j133 _ aa s1 _ _ Va (by rw [show quF i3 = [] by simp [quF, qz]]; exact S1) hO2) (by decide) (by decide)
  refine Run.pure hK (seg := [(26, .iload 6, 2), (28, .bipush 8, 2), (30, .iand, 1)]) (by decide +kernel) (pc' := 31) (L' := #[.val (.int i0), .val (.int i1), .val (.int i2), .val (.int i3), .val (.long i4), .second, .val (.int i5), .val (.int x1), .val (.int x2), .val (.int x3), .val (.int dd), .unset, .unset, .unset, .unset, .unset, .unset, .unset, .unset, .unset]) (S' := [(.int (i5 &&& (8 : Int32)))]) rfl ?_
  refine Run.ifz hK (cd := .eq) (o := 12) (by decide +kernel) (by decide) (pc' := 43) rfl (fun qt0 => ?_) (fun qt0 => ?_)
  · replace qt0 := (h_eq _ _).1 qt0
    refine Run.pure hK (seg := [(43, .iload_n 3, 1), (44, .istore 11, 2), (46, .iload 6, 2), (48, .iconst 1, 1), (49, .iand, 1)]) (by decide +kernel) (pc' := 50) (L' := #[.val (.int i0), .val (.int i1), .val (.int i2), .val (.int i3), .val (.long i4), .second, .val (.int i5), .val (.int x1), .val (.int x2), .val (.int x3), .val (.int dd), .val (.int i3), .unset, .unset, .unset, .unset, .unset, .unset, .unset, .unset]) (S' := [(.int (i5 &&& (1 : Int32)))]) rfl ?_
    refine Run.ifz hK (cd := .eq) (o := 8) (by decide +kernel) (by decide) (pc' := 58) rfl (fun qt1 => ?_) (fun qt1 => ?_)
    · replace qt1 := (h_eq _ _).1 qt1
      refine Run.pure hK (seg := [(58, .iload 7, 2), (60, .istore 12, 2), (62, .iload 6, 2), (64, .iconst 2, 1), (65, .iand, 1)]) (by decide +kernel) (pc' := 66) (L' := #[.val (.int i0), .val (.int i1), .val (.int i2), .val (.int i3), .val (.long i4), .second, .val (.int i5), .val (.int x1), .val (.int x2), .val (.int x3), .val (.int dd), .val (.int i3), .val (.int x1), .unset, .unset, .unset, .unset, .unset, .unset, .unset]) (S' := [(.int (i5 &&& (2 : Int32)))]) rfl ?_
      refine Run.ifz hK (cd := .eq) (o := 8) (by decide +kernel) (by decide) (pc' := 74) rfl (fun qt2 => ?_) (fun qt2 => ?_)
      · replace qt2 := (h_eq _ _).1 qt2
        refine Run.pure hK (seg := [(74, .iload 8, 2), (76, .istore 13, 2), (78, .iload 6, 2), (80, .iconst 4, 1), (81, .iand, 1)]) (by decide +kernel) (pc' := 82) (L' := #[.val (.int i0), .val (.int i1), .val (.int i2), .val (.int i3), .val (.long i4), .second, .val (.int i5), .val (.int x1), .val (.int x2), .val (.int x3), .val (.int dd), .val (.int i3), .val (.int x1), .val (.int x2), .unset, .unset, .unset, .unset, .unset, .unset]) (S' := [(.int (i5 &&& (4 : Int32)))]) rfl ?_
        refine Run.ifz hK (cd := .eq) (o := 8) (by decide +kernel) (by decide) (pc' := 90) rfl (fun qt3 => ?_) (fun qt3 => ?_)
        · replace qt3 := (h_eq _ _).1 qt3
          refine Run.pure hK (seg := [(90, .iload 9, 2), (92, .istore 14, 2)]) (by decide +kernel) (pc' := 94) (L' := #[.val (.int i0), .val (.int i1), .val (.int i2), .val (.int i3), .val (.long i4), .second, .val (.int i5), .val (.int x1), .val (.int x2), .val (.int x3), .val (.int dd), .val (.int i3), .val (.int x1), .val (.int x2), .val (.int x3), .unset, .unset, .unset, .unset, .unset]) (S' := []) rfl ?_
          exact join _ _ _ _ g_x1 g_x2 g_x3
        · replace qt3 := (h_eq _ _).2 qt3
          refine Run.pure hK (seg := [(85, .iload 10, 2), (87, .goto 5, 3), (92, .istore 14, 2)]) (by decide +kernel) (pc' := 94) (L' := #[.val (.int i0), .val (.int i1), .val (.int i2), .val (.int i3), .val (.long i4), .second, .val (.int i5), .val (.int x1), .val (.int x2), .val (.int x3), .val (.int dd), .val (.int i3), .val (.int x1), .val (.int x2), .val (.int dd), .unset, .unset, .unset, .unset, .unset]) (S' := []) rfl ?_
          exact join _ _ _ _ g_x1 g_x2 g_d
      · replace qt2 := (h_eq _ _).2 qt2
        refine Run.pure hK (seg := [(69, .iload 10, 2), (71, .goto 5, 3), (76, .istore 13, 2), (78, .iload 6, 2), (80, .iconst 4, 1), (81, .iand, 1)]) (by decide +kernel) (pc' := 82) (L' := #[.val (.int i0), .val (.int i1), .val (.int i2), .val (.int i3), .val (.long i4), .second, .val (.int i5), .val (.int x1), .val (.int x2), .val (.int x3), .val (.int dd), .val (.int i3), .val (.int x1), .val (.int dd), .unset, .unset, .unset, .unset, .unset, .unset]) (S' := [(.int (i5 &&& (4 : Int32)))]) rfl ?_
        refine Run.ifz hK (cd := .eq) (o := 8) (by decide +kernel) (by decide) (pc' := 90) rfl (fun qt3 => ?_) (fun qt3 => ?_)
        · replace qt3 := (h_eq _ _).1 qt3
          refine Run.pure hK (seg := [(90, .iload 9, 2), (92, .istore 14, 2)]) (by decide +kernel) (pc' := 94) (L' := #[.val (.int i0), .val (.int i1), .val (.int i2), .val (.int i3), .val (.long i4), .second, .val (.int i5), .val (.int x1), .val (.int x2), .val (.int x3), .val (.int dd), .val (.int i3), .val (.int x1), .val (.int dd), .val (.int x3), .unset, .unset, .unset, .unset, .unset]) (S' := []) rfl ?_
          exact join _ _ _ _ g_x1 g_d g_x3
        · replace qt3 := (h_eq _ _).2 qt3
          refine Run.pure hK (seg := [(85, .iload 10, 2), (87, .goto 5, 3), (92, .istore 14, 2)]) (by decide +kernel) (pc' := 94) (L' := #[.val (.int i0), .val (.int i1), .val (.int i2), .val (.int i3), .val (.long i4), .second, .val (.int i5), .val (.int x1), .val (.int x2), .val (.int x3), .val (.int dd), .val (.int i3), .val (.int x1), .val (.int dd), .val (.int dd), .unset, .unset, .unset, .unset, .unset]) (S' := []) rfl ?_
          exact join _ _ _ _ g_x1 g_d g_d
    · replace qt1 := (h_eq _ _).2 qt1
      refine Run.pure hK (seg := [(53, .iload 10, 2), (55, .goto 5, 3), (60, .istore 12, 2), (62, .iload 6, 2), (64, .iconst 2, 1), (65, .iand, 1)]) (by decide +kernel) (pc' := 66) (L' := #[.val (.int i0), .val (.int i1), .val (.int i2), .val (.int i3), .val (.long i4), .second, .val (.int i5), .val (.int x1), .val (.int x2), .val (.int x3), .val (.int dd), .val (.int i3), .val (.int dd), .unset, .unset, .unset, .unset, .unset, .unset, .unset]) (S' := [(.int (i5 &&& (2 : Int32)))]) rfl ?_
      refine Run.ifz hK (cd := .eq) (o := 8) (by decide +kernel) (by decide) (pc' := 74) rfl (fun qt2 => ?_) (fun qt2 => ?_)
      · replace qt2 := (h_eq _ _).1 qt2
        refine Run.pure hK (seg := [(74, .iload 8, 2), (76, .istore 13, 2), (78, .iload 6, 2), (80, .iconst 4, 1), (81, .iand, 1)]) (by decide +kernel) (pc' := 82) (L' := #[.val (.int i0), .val (.int i1), .val (.int i2), .val (.int i3), .val (.long i4), .second, .val (.int i5), .val (.int x1), .val (.int x2), .val (.int x3), .val (.int dd), .val (.int i3), .val (.int dd), .val (.int x2), .unset, .unset, .unset, .unset, .unset, .unset]) (S' := [(.int (i5 &&& (4 : Int32)))]) rfl ?_
        refine Run.ifz hK (cd := .eq) (o := 8) (by decide +kernel) (by decide) (pc' := 90) rfl (fun qt3 => ?_) (fun qt3 => ?_)
        · replace qt3 := (h_eq _ _).1 qt3
          refine Run.pure hK (seg := [(90, .iload 9, 2), (92, .istore 14, 2)]) (by decide +kernel) (pc' := 94) (L' := #[.val (.int i0), .val (.int i1), .val (.int i2), .val (.int i3), .val (.long i4), .second, .val (.int i5), .val (.int x1), .val (.int x2), .val (.int x3), .val (.int dd), .val (.int i3), .val (.int dd), .val (.int x2), .val (.int x3), .unset, .unset, .unset, .unset, .unset]) (S' := []) rfl ?_
          exact join _ _ _ _ g_d g_x2 g_x3
        · replace qt3 := (h_eq _ _).2 qt3
          refine Run.pure hK (seg := [(85, .iload 10, 2), (87, .goto 5, 3), (92, .istore 14, 2)]) (by decide +kernel) (pc' := 94) (L' := #[.val (.int i0), .val (.int i1), .val (.int i2), .val (.int i3), .val (.long i4), .second, .val (.int i5), .val (.int x1), .val (.int x2), .val (.int x3), .val (.int dd), .val (.int i3), .val (.int dd), .val (.int x2), .val (.int dd), .unset, .unset, .unset, .unset, .unset]) (S' := []) rfl ?_
          exact join _ _ _ _ g_d g_x2 g_d
      · replace qt2 := (h_eq _ _).2 qt2
        refine Run.pure hK (seg := [(69, .iload 10, 2), (71, .goto 5, 3), (76, .istore 13, 2), (78, .iload 6, 2), (80, .iconst 4, 1), (81, .iand, 1)]) (by decide +kernel) (pc' := 82) (L' := #[.val (.int i0), .val (.int i1), .val (.int i2), .val (.int i3), .val (.long i4), .second, .val (.int i5), .val (.int x1), .val (.int x2), .val (.int x3), .val (.int dd), .val (.int i3), .val (.int dd), .val (.int dd), .unset, .unset, .unset, .unset, .unset, .unset]) (S' := [(.int (i5 &&& (4 : Int32)))]) rfl ?_
        refine Run.ifz hK (cd := .eq) (o := 8) (by decide +kernel) (by decide) (pc' := 90) rfl (fun qt3 => ?_) (fun qt3 => ?_)
        · replace qt3 := (h_eq _ _).1 qt3
          refine Run.pure hK (seg := [(90, .iload 9, 2), (92, .istore 14, 2)]) (by decide +kernel) (pc' := 94) (L' := #[.val (.int i0), .val (.int i1), .val (.int i2), .val (.int i3), .val (.long i4), .second, .val (.int i5), .val (.int x1), .val (.int x2), .val (.int x3), .val (.int dd), .val (.int i3), .val (.int dd), .val (.int dd), .val (.int x3), .unset, .unset, .unset, .unset, .unset]) (S' := []) rfl ?_
          exact join _ _ _ _ g_d g_d g_x3
        · replace qt3 := (h_eq _ _).2 qt3
          refine Run.pure hK (seg := [(85, .iload 10, 2), (87, .goto 5, 3), (92, .istore 14, 2)]) (by decide +kernel) (pc' := 94) (L' := #[.val (.int i0), .val (.int i1), .val (.int i2), .val (.int i3), .val (.long i4), .second, .val (.int i5), .val (.int x1), .val (.int x2), .val (.int x3), .val (.int dd), .val (.int i3), .val (.int dd), .val (.int dd), .val (.int dd), .unset, .unset, .unset, .unset, .unset]) (S' := []) rfl ?_
          exact join _ _ _ _ g_d g_d g_d
  · replace qt0 := (h_eq _ _).2 qt0
    refine Run.pure hK (seg := [(34, .lload 4, 2), (36, .bipush 32, 2), (38, .lushr, 1), (39, .l2i, 1), (40, .goto 4, 3), (44, .istore 11, 2), (46, .iload 6, 2), (48, .iconst 1, 1), (49, .iand, 1)]) (by decide +kernel) (pc' := 50) (L' := #[.val (.int i0), .val (.int i1), .val (.int i2), .val (.int i3), .val (.long i4), .second, .val (.int i5), .val (.int x1), .val (.int x2), .val (.int x3), .val (.int dd), .val (.int (XT.ushrL i4 (32 : Int32)).toInt32), .unset, .unset, .unset, .unset, .unset, .unset, .unset, .unset]) (S' := [(.int (i5 &&& (1 : Int32)))]) rfl ?_
    refine Run.ifz hK (cd := .eq) (o := 8) (by decide +kernel) (by decide) (pc' := 58) rfl (fun qt1 => ?_) (fun qt1 => ?_)
    · replace qt1 := (h_eq _ _).1 qt1
      refine Run.pure hK (seg := [(58, .iload 7, 2), (60, .istore 12, 2), (62, .iload 6, 2), (64, .iconst 2, 1), (65, .iand, 1)]) (by decide +kernel) (pc' := 66) (L' := #[.val (.int i0), .val (.int i1), .val (.int i2), .val (.int i3), .val (.long i4), .second, .val (.int i5), .val (.int x1), .val (.int x2), .val (.int x3), .val (.int dd), .val (.int (XT.ushrL i4 (32 : Int32)).toInt32), .val (.int x1), .unset, .unset, .unset, .unset, .unset, .unset, .unset]) (S' := [(.int (i5 &&& (2 : Int32)))]) rfl ?_
      refine Run.ifz hK (cd := .eq) (o := 8) (by decide +kernel) (by decide) (pc' := 74) rfl (fun qt2 => ?_) (fun qt2 => ?_)
      · replace qt2 := (h_eq _ _).1 qt2
        refine Run.pure hK (seg := [(74, .iload 8, 2), (76, .istore 13, 2), (78, .iload 6, 2), (80, .iconst 4, 1), (81, .iand, 1)]) (by decide +kernel) (pc' := 82) (L' := #[.val (.int i0), .val (.int i1), .val (.int i2), .val (.int i3), .val (.long i4), .second, .val (.int i5), .val (.int x1), .val (.int x2), .val (.int x3), .val (.int dd), .val (.int (XT.ushrL i4 (32 : Int32)).toInt32), .val (.int x1), .val (.int x2), .unset, .unset, .unset, .unset, .unset, .unset]) (S' := [(.int (i5 &&& (4 : Int32)))]) rfl ?_
        refine Run.ifz hK (cd := .eq) (o := 8) (by decide +kernel) (by decide) (pc' := 90) rfl (fun qt3 => ?_) (fun qt3 => ?_)
        · replace qt3 := (h_eq _ _).1 qt3
          refine Run.pure hK (seg := [(90, .iload 9, 2), (92, .istore 14, 2)]) (by decide +kernel) (pc' := 94) (L' := #[.val (.int i0), .val (.int i1), .val (.int i2), .val (.int i3), .val (.long i4), .second, .val (.int i5), .val (.int x1), .val (.int x2), .val (.int x3), .val (.int dd), .val (.int (XT.ushrL i4 (32 : Int32)).toInt32), .val (.int x1), .val (.int x2), .val (.int x3), .unset, .unset, .unset, .unset, .unset]) (S' := []) rfl ?_
          exact join _ _ _ _ g_x1 g_x2 g_x3
        · replace qt3 := (h_eq _ _).2 qt3
          refine Run.pure hK (seg := [(85, .iload 10, 2), (87, .goto 5, 3), (92, .istore 14, 2)]) (by decide +kernel) (pc' := 94) (L' := #[.val (.int i0), .val (.int i1), .val (.int i2), .val (.int i3), .val (.long i4), .second, .val (.int i5), .val (.int x1), .val (.int x2), .val (.int x3), .val (.int dd), .val (.int (XT.ushrL i4 (32 : Int32)).toInt32), .val (.int x1), .val (.int x2), .val (.int dd), .unset, .unset, .unset, .unset, .unset]) (S' := []) rfl ?_
          exact join _ _ _ _ g_x1 g_x2 g_d
      · replace qt2 := (h_eq _ _).2 qt2
        refine Run.pure hK (seg := [(69, .iload 10, 2), (71, .goto 5, 3), (76, .istore 13, 2), (78, .iload 6, 2), (80, .iconst 4, 1), (81, .iand, 1)]) (by decide +kernel) (pc' := 82) (L' := #[.val (.int i0), .val (.int i1), .val (.int i2), .val (.int i3), .val (.long i4), .second, .val (.int i5), .val (.int x1), .val (.int x2), .val (.int x3), .val (.int dd), .val (.int (XT.ushrL i4 (32 : Int32)).toInt32), .val (.int x1), .val (.int dd), .unset, .unset, .unset, .unset, .unset, .unset]) (S' := [(.int (i5 &&& (4 : Int32)))]) rfl ?_
        refine Run.ifz hK (cd := .eq) (o := 8) (by decide +kernel) (by decide) (pc' := 90) rfl (fun qt3 => ?_) (fun qt3 => ?_)
        · replace qt3 := (h_eq _ _).1 qt3
          refine Run.pure hK (seg := [(90, .iload 9, 2), (92, .istore 14, 2)]) (by decide +kernel) (pc' := 94) (L' := #[.val (.int i0), .val (.int i1), .val (.int i2), .val (.int i3), .val (.long i4), .second, .val (.int i5), .val (.int x1), .val (.int x2), .val (.int x3), .val (.int dd), .val (.int (XT.ushrL i4 (32 : Int32)).toInt32), .val (.int x1), .val (.int dd), .val (.int x3), .unset, .unset, .unset, .unset, .unset]) (S' := []) rfl ?_
          exact join _ _ _ _ g_x1 g_d g_x3
        · replace qt3 := (h_eq _ _).2 qt3
          refine Run.pure hK (seg := [(85, .iload 10, 2), (87, .goto 5, 3), (92, .istore 14, 2)]) (by decide +kernel) (pc' := 94) (L' := #[.val (.int i0), .val (.int i1), .val (.int i2), .val (.int i3), .val (.long i4), .second, .val (.int i5), .val (.int x1), .val (.int x2), .val (.int x3), .val (.int dd), .val (.int (XT.ushrL i4 (32 : Int32)).toInt32), .val (.int x1), .val (.int dd), .val (.int dd), .unset, .unset, .unset, .unset, .unset]) (S' := []) rfl ?_
          exact join _ _ _ _ g_x1 g_d g_d
    · replace qt1 := (h_eq _ _).2 qt1
      refine Run.pure hK (seg := [(53, .iload 10, 2), (55, .goto 5, 3), (60, .istore 12, 2), (62, .iload 6, 2), (64, .iconst 2, 1), (65, .iand, 1)]) (by decide +kernel) (pc' := 66) (L' := #[.val (.int i0), .val (.int i1), .val (.int i2), .val (.int i3), .val (.long i4), .second, .val (.int i5), .val (.int x1), .val (.int x2), .val (.int x3), .val (.int dd), .val (.int (XT.ushrL i4 (32 : Int32)).toInt32), .val (.int dd), .unset, .unset, .unset, .unset, .unset, .unset, .unset]) (S' := [(.int (i5 &&& (2 : Int32)))]) rfl ?_
      refine Run.ifz hK (cd := .eq) (o := 8) (by decide +kernel) (by decide) (pc' := 74) rfl (fun qt2 => ?_) (fun qt2 => ?_)
      · replace qt2 := (h_eq _ _).1 qt2
        refine Run.pure hK (seg := [(74, .iload 8, 2), (76, .istore 13, 2), (78, .iload 6, 2), (80, .iconst 4, 1), (81, .iand, 1)]) (by decide +kernel) (pc' := 82) (L' := #[.val (.int i0), .val (.int i1), .val (.int i2), .val (.int i3), .val (.long i4), .second, .val (.int i5), .val (.int x1), .val (.int x2), .val (.int x3), .val (.int dd), .val (.int (XT.ushrL i4 (32 : Int32)).toInt32), .val (.int dd), .val (.int x2), .unset, .unset, .unset, .unset, .unset, .unset]) (S' := [(.int (i5 &&& (4 : Int32)))]) rfl ?_
        refine Run.ifz hK (cd := .eq) (o := 8) (by decide +kernel) (by decide) (pc' := 90) rfl (fun qt3 => ?_) (fun qt3 => ?_)
        · replace qt3 := (h_eq _ _).1 qt3
          refine Run.pure hK (seg := [(90, .iload 9, 2), (92, .istore 14, 2)]) (by decide +kernel) (pc' := 94) (L' := #[.val (.int i0), .val (.int i1), .val (.int i2), .val (.int i3), .val (.long i4), .second, .val (.int i5), .val (.int x1), .val (.int x2), .val (.int x3), .val (.int dd), .val (.int (XT.ushrL i4 (32 : Int32)).toInt32), .val (.int dd), .val (.int x2), .val (.int x3), .unset, .unset, .unset, .unset, .unset]) (S' := []) rfl ?_
          exact join _ _ _ _ g_d g_x2 g_x3
        · replace qt3 := (h_eq _ _).2 qt3
          refine Run.pure hK (seg := [(85, .iload 10, 2), (87, .goto 5, 3), (92, .istore 14, 2)]) (by decide +kernel) (pc' := 94) (L' := #[.val (.int i0), .val (.int i1), .val (.int i2), .val (.int i3), .val (.long i4), .second, .val (.int i5), .val (.int x1), .val (.int x2), .val (.int x3), .val (.int dd), .val (.int (XT.ushrL i4 (32 : Int32)).toInt32), .val (.int dd), .val (.int x2), .val (.int dd), .unset, .unset, .unset, .unset, .unset]) (S' := []) rfl ?_
          exact join _ _ _ _ g_d g_x2 g_d
      · replace qt2 := (h_eq _ _).2 qt2
        refine Run.pure hK (seg := [(69, .iload 10, 2), (71, .goto 5, 3), (76, .istore 13, 2), (78, .iload 6, 2), (80, .iconst 4, 1), (81, .iand, 1)]) (by decide +kernel) (pc' := 82) (L' := #[.val (.int i0), .val (.int i1), .val (.int i2), .val (.int i3), .val (.long i4), .second, .val (.int i5), .val (.int x1), .val (.int x2), .val (.int x3), .val (.int dd), .val (.int (XT.ushrL i4 (32 : Int32)).toInt32), .val (.int dd), .val (.int dd), .unset, .unset, .unset, .unset, .unset, .unset]) (S' := [(.int (i5 &&& (4 : Int32)))]) rfl ?_
        refine Run.ifz hK (cd := .eq) (o := 8) (by decide +kernel) (by decide) (pc' := 90) rfl (fun qt3 => ?_) (fun qt3 => ?_)
        · replace qt3 := (h_eq _ _).1 qt3
          refine Run.pure hK (seg := [(90, .iload 9, 2), (92, .istore 14, 2)]) (by decide +kernel) (pc' := 94) (L' := #[.val (.int i0), .val (.int i1), .val (.int i2), .val (.int i3), .val (.long i4), .second, .val (.int i5), .val (.int x1), .val (.int x2), .val (.int x3), .val (.int dd), .val (.int (XT.ushrL i4 (32 : Int32)).toInt32), .val (.int dd), .val (.int dd), .val (.int x3), .unset, .unset, .unset, .unset, .unset]) (S' := []) rfl ?_
          exact join _ _ _ _ g_d g_d g_x3
        · replace qt3 := (h_eq _ _).2 qt3
          refine Run.pure hK (seg := [(85, .iload 10, 2), (87, .goto 5, 3), (92, .istore 14, 2)]) (by decide +kernel) (pc' := 94) (L' := #[.val (.int i0), .val (.int i1), .val (.int i2), .val (.int i3), .val (.long i4), .second, .val (.int i5), .val (.int x1), .val (.int x2), .val (.int x3), .val (.int dd), .val (.int (XT.ushrL i4 (32 : Int32)).toInt32), .val (.int dd), .val (.int dd), .val (.int dd), .unset, .unset, .unset, .unset, .unset]) (S' := []) rfl ?_
          exact join _ _ _ _ g_d g_d g_d
set_option maxRecDepth 65536 in
set_option maxHeartbeats 40000000 in
theorem comes_1 {Post : Tables → Env → Array Value → State → Outcome → State → Prop} (hpost : ∀ tb e args s v u, (limb_1_1.after args s (.returned v) u = true ∧ limb_1_2.after args s (.returned v) u = true ∧ True) → ReturnedEndW s (.returned v) u (Jvm.fieldLocs frame_1_writes args s ++ Jvm.arrayLocs frame_1_arrays args s ++ Jvm.staticLocs frame_1_statics s) 32 2240 → Post tb e args s (.returned v) u) :
    ArmFor flags0 classFile x code maxLocals ret World_1 tables_1 room_1 Calls_1 rest_1 Pre_1 Post := by
  intro l hfl _ _ p e ha hc hk s m args below hf hA hF happ hP
  obtain ⟨hcalls, hrest, hpre⟩ := hP
  obtain ⟨-, -, -, hnamed, -, -, -, hat⟩ := (Spec.applies_iff hf).mp happ
  obtain ⟨hg, hn⟩ := and_e (Cond.before_iff.mp (show (Jvm.Cond.and given_1 narrow_1).before args s = true from hpre))
  obtain ⟨k0, r0⟩ := and_e hg
  obtain ⟨k1, r1⟩ := and_e r0
  obtain ⟨k2, r2⟩ := and_e r1
  obtain ⟨k3, r3⟩ := and_e r2
  obtain ⟨k4, r4⟩ := and_e r3
  obtain ⟨k5, r5⟩ := and_e r4
  obtain ⟨w0, w1, w2, w3, w4, w5, rfl⟩ : ∃ w0 w1 w2 w3 w4 w5 : Value, args = #[w0, w1, w2, w3, w4, w5] := by
    have hs : args.size = 6 := by simpa [Cond.value, given_1] using k0
    obtain ⟨L⟩ := args
    match L, hs with
    | [w0, w1, w2, w3, w4, w5], _ => exact ⟨w0, w1, w2, w3, w4, w5, rfl⟩
  have hw := fun d (hd : d ∈ tables_1) => atoms_spec (ws := Jvm.Cond.code x code maxLocals ret :: tables_1) hat d (List.mem_cons_of_mem _ hd)
  obtain ⟨i0, f0⟩ := is_v k1
  obtain rfl : w0 = (.int i0) := Option.some.inj f0
  obtain ⟨i1, f1⟩ := is_v k2
  obtain rfl : w1 = (.int i1) := Option.some.inj f1
  obtain ⟨i2, f2⟩ := is_v k3
  obtain rfl : w2 = (.int i2) := Option.some.inj f2
  obtain ⟨i3, f3⟩ := is_v k4
  obtain rfl : w3 = (.int i3) := Option.some.inj f3
  obtain ⟨i4, f4⟩ := isL_v k5
  obtain rfl : w4 = (.long i4) := Option.some.inj f4
  obtain ⟨i5, f5⟩ := is_v r5
  obtain rfl : w5 = (.int i5) := Option.some.inj f5
  obtain ⟨hsets, hown0⟩ := atoms_of _ (rest_1_c_eq ▸ (show rest_1_c.before _ s = true from hrest))
  have nz := not_v (Cond.before_iff.mp (hsets _ (List.mem_of_getElem? (i := 2) rfl)))
  obtain ⟨z0, ez⟩ := is_v (Cond.before_iff.mp (hsets _ (List.mem_of_getElem? (i := 1) rfl)))
  have O2 : Sta s s.heap "java/lang/String" "COMPACT_STRINGS" "Z" (.int z0) := Sta.start ez (Or.inl (hsets _ (List.mem_of_getElem? (i := 0) rfl)))
  have P5 : ¬ (z0 = (0 : Int32)) := gotF (Cond.eq_ints ez (Term.int_eval (0))) nz
  obtain ⟨fm, ef, rf⟩ := isR_v (Cond.before_iff.mp (hsets _ (List.mem_of_getElem? (i := 8) rfl)))
  have O4 : Sta s s.heap "jdk/internal/util/Preconditions" "SIOOBE_FORMATTER" "Ljava/util/function/BiFunction;" fm := Sta.start ef (Or.inl (hsets _ (List.mem_of_getElem? (i := 7) rfl)))
  have hEL : EW s _ consts_1 := EW.cons (hw _ (List.mem_of_getElem? (i := 96) rfl)) (by decide) (EW.cons (hw _ (List.mem_of_getElem? (i := 136) rfl)) (by decide) (EW.nil))
  have hheld : ∀ p ∈ consts_1, Jvm.Lit.constHeld s p.1 p.2 := fun p hp => hcalls.1 p hp
  have hCH : CHv s consts_1 s.vm s.heap := CHv.start hEL hheld (show (Jvm.Cond.not (Jvm.Cond.eq (Jvm.Term.static "java/lang/String" "COMPACT_STRINGS" "Z") (Jvm.Term.int (0 : Int32)))).before _ s = true from (hsets _ (List.mem_of_getElem? (i := 2) rfl))) (hw _ (List.mem_of_getElem? (i := 27) rfl)) (hw _ (List.mem_of_getElem? (i := 9) rfl))
  have eh := eqv_i (Term.int_eval (127)) (Cond.before_iff.mp (hsets _ (List.mem_of_getElem? (i := 12) rfl)))
  have IH : Sta s s.heap "java/lang/Integer$IntegerCache" "high" "I" (.int 127) := Sta.start eh (Or.inl (hsets _ (List.mem_of_getElem? (i := 10) rfl)))
  obtain ⟨ca, eca⟩ := arr_v (Cond.before_iff.mp (hsets _ (List.mem_of_getElem? (i := 13) rfl)))
  have IS : Sta s s.heap "java/lang/Integer$IntegerCache" "cache" "[Ljava/lang/Integer;" (.ref ca) := Sta.start eca (Or.inr ⟨(hw _ (List.mem_of_getElem? (i := 104) rfl)), (hsets _ (List.mem_of_getElem? (i := 11) rfl))⟩)
  obtain ⟨cc, Ac⟩ := Arr.start eca (Cond.before_iff.mp (hsets _ (List.mem_of_getElem? (i := 13) rfl)))
  have el := eqv_i (Term.int_eval (256)) (Cond.before_iff.mp (hsets _ (List.mem_of_getElem? (i := 15) rfl)))
  obtain ⟨ca', cc', el1, el2, el3⟩ := Term.length_spec el
  cases eca.symm.trans el1
  cases (Ac.fin (Vm.Alike.refl _)).symm.trans el2
  have lt := Jvm.Free.SBG.length_lt eca el2 el
  have IB : Bxs s ca cc "java/lang/Integer" "I" 256 (fun j => .int (j - 128)) := Bxs.start (fun _ => eca) Ac lt (by injection el3 with el3; exact el3.symm) (by decide) (Cond.before_iff.mp (hsets _ (List.mem_of_getElem? (i := 16) rfl))) (fun X j nn h => eqv_i (Term.sub_int (idx_at nn) (Term.int_eval (128))) h)
  have IA : ICa s := ⟨IH, ca, cc, _, IS, IB⟩
  obtain ⟨n, o, g1, g2, g3, v, Lo, rfl, hv, hF', -, hq, hwn, -⟩ := c_law (⟨hw, hEL, O2, P5, O4, rf⟩ : Env1 s _ z0 fm) i0 i1 i2 i3 i4 i5 IA s.heap p e ha hc hk s m _ below hf ((Spec.applies_iff_loose hf).mp happ).1 ⟨rfl, State.Warmed39.refl s, rfl, hCH, fun _ q => (nomatch q), Nat.le_refl _, fun _ _ q => q⟩ trivial
  obtain rfl : v = some (.int 1) := hv
  refine ⟨n, _, g1, g2, g3, hpost _ _ _ _ _ _ ⟨Cond.after_iff.mpr rfl, Cond.after_iff.mpr (eq_i res_at (Term.int_eval (1)) rfl), trivial⟩ ⟨hq.1, hq.2.1, hq.2.2.1, (hq.2.2.2.sift fun y hy => Or.inr (hF' y hy)).mono (by decide) (by decide)⟩⟩
theorem main_1_1 : Claimed_1_1 := comes_1 fun _ _ _ _ _ _ h hF => ⟨h.1, hF⟩
theorem main_1_2 : Claimed_1_2 := comes_1 fun _ _ _ _ _ _ h hF => ⟨h.2.1, hF⟩
end Jvm.Pilot.@@N@@
namespace Jvm.Pilot.@@N@@
open Jvm Jvm.ClassFile Sem Op Lib Jvm.Free Jvm.Stand Jvm.Pilot.@@N@@.Jvm.D
/-! MADE BY PROGRAM (witnessworld.py) out of the Statement's table words and the real class files: 24 classes; the members and pool entries that the words name. The judged class is class 1, her method 4. -/
namespace start1
open Jvm.ClassFile
def u (s : String) : CpInfo := .utf8 (stringToUtf16 s)
/-- a pool by its gaps: so many unusable entries, then the entry; so many at the end -/
def gap : Nat → List CpInfo → List CpInfo
  | 0, r => r
  | n + 1, r => .unusable :: gap n r
def poolList (es : List (Nat × CpInfo)) (last : Nat) : List CpInfo := es.foldr (fun e r => gap e.1 (e.2 :: r)) (gap last [])
def pool (es : List (Nat × CpInfo)) (last : Nat) : Array CpInfo := ⟨poolList es last⟩
def fileOf (pool : Array CpInfo) (this : Nat) (attrs : Array Attribute := #[]) (ms : Array MethodInfo := #[]) (fl : Nat := 33) (sup : Nat := 0) (ifs : Array Nat := #[]) (fds : Array FieldInfo := #[]) : ClassFile where
  minorVersion := 0
  majorVersion := 65
  constantPool := pool
  accessFlags := fl
  thisClass := this
  superClass := sup
  interfaces := ifs
  fields := fds
  methods := ms
  attributes := attrs
def plain (name : String) (sup : Option ClassId) : Class where
  name := name
  kind := .ordinary
  loader := none
  accessFlags := 33
  super := sup
  interfaces := #[]
  cf := none
  fields := #[]
  methods := #[]
  instanceTypes := #[]
  staticTypes := #[]
  resolved := #[]
  callSites := []
  init := .initialized
  statics := none
  mirror := none

def pool0 : Array CpInfo := pool [(5, u "<init>"), (0, u "()V"), (1, .class_ 10), (1, u "java/lang/Object")] 113

def k0c0 : Code := { maxStack := 0, maxLocals := 1, code := object_method_1_code, exceptionTable := #[], attributes := #[] }
def k0m0 : Method := { name := "<init>", desc := "()V", sig := { parameters := [], returnType := none }, accessFlags := 1, code := some k0c0 }
/-- java/lang/Object -/
def k0 : Class := { plain "java/lang/Object" none with
  accessFlags := 33
  interfaces := #[]
  cf := some (fileOf pool0 8 #[] #[{ accessFlags := 1, nameIndex := 5, descriptorIndex := 6, attributes := #[] }] 33 0 #[] #[])
  fields := #[]
  methods := #[k0m0]
  instanceTypes := #[]
  staticTypes := #[]
  resolved := Array.replicate 124 none
  statics := none }

def pool1 : Array CpInfo := pool [(2, .class_ 4), (1, u "java/lang/Object"), (0, u "<init>"), (0, u "()V"), (0, .class_ 8), (0, u "java/lang/String"), (0, .methodref 7 10), (0, .nameAndType 5 11), (0, u "([C)V"), (0, .methodref 13 14), (0, .class_ 15), (0, .nameAndType 16 17), (0, u "org/osgi/framework/VersionEqualsPinLaw"), (0, u "ch"), (0, u "(I)C"), (0, .integer 2147483647), (0, .methodref 13 20), (0, .nameAndType 21 22), (0, u "qual"), (0, u "(I)Ljava/lang/String;"), (0, .class_ 24), (0, u "org/osgi/framework/Version"), (0, .methodref 23 26), (0, .nameAndType 5 27), (0, u "(IIILjava/lang/String;)V"), (0, .methodref 23 29), (0, .nameAndType 30 31), (0, u "equals"), (0, u "(Ljava/lang/Object;)Z"), (0, .methodref 33 34), (0, .class_ 35), (0, .nameAndType 36 37), (0, u "java/lang/Integer"), (0, u "valueOf"), (0, u "(I)Ljava/lang/Integer;"), (0, .methodref 13 39), (0, .nameAndType 40 41), (0, u "sameQual"), (0, u "(II)Z"), (3, u "law"), (0, u "(IIIIJI)Z")] 2

def k1m0 : Method := { name := "<init>", desc := "()V", sig := { parameters := [], returnType := none }, accessFlags := 1, code := none }
def k1c1 : Code := { maxStack := 3, maxLocals := 2, code := method_2_code, exceptionTable := #[], attributes := #[] }
def k1m1 : Method := { name := "ch", desc := "(I)C", sig := { parameters := [.int], returnType := some .char }, accessFlags := 10, code := some k1c1 }
def k1c2 : Code := { maxStack := 6, maxLocals := 5, code := method_3_code, exceptionTable := #[], attributes := #[] }
def k1m2 : Method := { name := "qual", desc := "(I)Ljava/lang/String;", sig := { parameters := [.int], returnType := some (.object "java/lang/String") }, accessFlags := 10, code := some k1c2 }
def k1c3 : Code := { maxStack := 3, maxLocals := 3, code := method_4_code, exceptionTable := #[], attributes := #[] }
def k1m3 : Method := { name := "sameQual", desc := "(II)Z", sig := { parameters := [.int, .int], returnType := some .boolean }, accessFlags := 10, code := some k1c3 }
def k1c4 : Code := { maxStack := 6, maxLocals := 20, code := code, exceptionTable := #[], attributes := #[] }
def k1m4 : Method := { name := "law", desc := "(IIIIJI)Z", sig := { parameters := [.int, .int, .int, .int, .long, .int], returnType := some .boolean }, accessFlags := 9, code := some k1c4 }
/-- org/osgi/framework/VersionEqualsPinLaw -/
def k1 : Class := { plain "org/osgi/framework/VersionEqualsPinLaw" (some 0) with
  accessFlags := 49
  interfaces := #[]
  cf := some (fileOf pool1 13 #[] #[{ accessFlags := 1, nameIndex := 5, descriptorIndex := 6, attributes := #[] }, { accessFlags := 10, nameIndex := 16, descriptorIndex := 17, attributes := #[] }, { accessFlags := 10, nameIndex := 21, descriptorIndex := 22, attributes := #[] }, { accessFlags := 10, nameIndex := 40, descriptorIndex := 41, attributes := #[] }, { accessFlags := 9, nameIndex := 45, descriptorIndex := 46, attributes := #[] }] 49 2 #[] #[])
  fields := #[]
  methods := #[k1m0, k1m1, k1m2, k1m3, k1m4]
  instanceTypes := #[]
  staticTypes := #[]
  resolved := Array.replicate 49 none
  statics := none }

def pool2 : Array CpInfo := pool [(1, .class_ 2), (0, u "java/io/Serializable"), (0, .class_ 4), (0, u "java/lang/Object")] 2

/-- java/io/Serializable -/
def k2 : Class := { plain "java/io/Serializable" (some 0) with
  accessFlags := 1537
  interfaces := #[]
  cf := some (fileOf pool2 1 #[] #[] 1537 3 #[] #[])
  fields := #[]
  methods := #[]
  instanceTypes := #[]
  staticTypes := #[]
  resolved := Array.replicate 7 none
  statics := none }

def pool3 : Array CpInfo := pool [(1, .class_ 2), (0, u "java/lang/Comparable"), (0, .class_ 4), (0, u "java/lang/Object")] 7

/-- java/lang/Comparable -/
def k3 : Class := { plain "java/lang/Comparable" (some 0) with
  accessFlags := 1537
  interfaces := #[]
  cf := some (fileOf pool3 1 #[] #[] 1537 3 #[] #[])
  fields := #[]
  methods := #[]
  instanceTypes := #[]
  staticTypes := #[]
  resolved := Array.replicate 12 none
  statics := none }

def pool4 : Array CpInfo := pool [(2, .class_ 4), (1, u "java/lang/CharSequence"), (42, .class_ 48), (0, u "java/lang/CharSequence$1CodePointIterator"), (10, .class_ 60), (0, u "java/lang/CharSequence$1CharIterator"), (5, .class_ 67), (0, u "java/lang/Object")] 63

/-- java/lang/CharSequence -/
def k4 : Class := { plain "java/lang/CharSequence" (some 0) with
  accessFlags := 1537
  interfaces := #[]
  cf := some (fileOf pool4 2 #[.nestMembers #[47, 59]] #[] 1537 66 #[] #[])
  fields := #[]
  methods := #[]
  instanceTypes := #[]
  staticTypes := #[]
  resolved := Array.replicate 131 none
  statics := none }

def pool5 : Array CpInfo := pool [(1, .class_ 2), (0, u "java/lang/constant/Constable"), (0, .class_ 4), (0, u "java/lang/Object")] 6

/-- java/lang/constant/Constable -/
def k5 : Class := { plain "java/lang/constant/Constable" (some 0) with
  accessFlags := 1537
  interfaces := #[]
  cf := some (fileOf pool5 1 #[] #[] 1537 3 #[] #[])
  fields := #[]
  methods := #[]
  instanceTypes := #[]
  staticTypes := #[]
  resolved := Array.replicate 11 none
  statics := none }

def pool6 : Array CpInfo := pool [(1, .class_ 2), (0, u "java/lang/constant/ConstantDesc"), (0, .class_ 4), (0, u "java/lang/Object")] 32

/-- java/lang/constant/ConstantDesc -/
def k6 : Class := { plain "java/lang/constant/ConstantDesc" (some 0) with
  accessFlags := 1537
  interfaces := #[]
  cf := some (fileOf pool6 1 #[] #[] 1537 3 #[] #[])
  fields := #[]
  methods := #[]
  instanceTypes := #[]
  staticTypes := #[]
  resolved := Array.replicate 37 none
  statics := none }

def pool7 : Array CpInfo := pool [(1, .methodref 2 3), (0, .class_ 4), (0, .nameAndType 5 6), (0, u "java/lang/Object"), (0, u "<init>"), (0, u "()V"), (0, .string 8), (0, u ""), (0, .fieldref 10 11), (0, .class_ 12), (0, .nameAndType 13 14), (0, u "java/lang/String"), (0, u "value"), (0, u "[B"), (0, .fieldref 10 16), (0, .nameAndType 17 18), (0, u "coder"), (0, u "B"), (2, u "hash"), (0, u "I"), (2, u "hashIsZero"), (0, u "Z"), (0, .methodref 10 28), (0, .nameAndType 5 29), (0, u "([CIILjava/lang/Void;)V"), (8, .fieldref 10 39), (0, .nameAndType 40 26), (0, u "COMPACT_STRINGS"), (1, .class_ 44), (1, u "java/lang/StringUTF16"), (0, u "compress"), (1, .methodref 42 48), (0, .nameAndType 49 50), (0, u "coderFromArrayLen"), (0, u "([BI)B"), (56, .class_ 109), (1, u "java/lang/StringLatin1"), (32, u "()Z"), (34, .methodref 42 178), (0, .nameAndType 45 179), (0, u "([CII)[B"), (154, u "()I"), (0, .methodref 10 336), (0, .nameAndType 17 337), (0, u "()B"), (25, u "([BI)C"), (27, u "(II)V"), (35, u "(I)C"), (64, .methodref 10 493), (0, .nameAndType 494 142), (0, u "isLatin1"), (0, .methodref 107 496), (0, .nameAndType 497 363), (0, u "charAt"), (3, u "checkIndex"), (5, u "length"), (33, .methodref 107 542), (0, .nameAndType 543 544), (0, u "equals"), (0, u "([B[B)Z"), (28, u "(Ljava/lang/Object;)Z"), (1, .class_ 576), (0, u "java/lang/CharSequence"), (22, u "CASE_INSENSITIVE_ORDER"), (0, u "Ljava/util/Comparator;"), (409, u "([C)V"), (42, .fieldref 1054 1055), (0, .class_ 1056), (0, .nameAndType 1057 1058), (0, u "jdk/internal/util/Preconditions"), (0, u "SIOOBE_FORMATTER"), (0, u "Ljava/util/function/BiFunction;"), (0, .methodref 1054 1060), (0, .nameAndType 501 1061), (0, u "(IILjava/util/function/BiFunction;)I"), (39, u "serialPersistentFields"), (0, u "[Ljava/io/ObjectStreamField;"), (0, .class_ 1104), (0, u "java/lang/String$CaseInsensitiveComparator"), (1, .class_ 1107), (0, u "java/io/Serializable"), (0, .class_ 1109), (0, u "java/lang/Comparable"), (0, .class_ 1111), (0, u "java/lang/constant/Constable"), (0, .class_ 1113), (0, u "java/lang/constant/ConstantDesc"), (2, u "serialVersionUID"), (0, u "J"), (3, u "REPL"), (0, u "C"), (2, u "LATIN1"), (1, u "UTF16")] 323

def k7m0 : Method := { name := "<init>", desc := "()V", sig := { parameters := [], returnType := none }, accessFlags := 1, code := none }
def k7c1 : Code := { maxStack := 5, maxLocals := 2, code := jdk_42_method_3_code, exceptionTable := #[], attributes := #[] }
def k7m1 : Method := { name := "<init>", desc := "([C)V", sig := { parameters := [(.array .char)], returnType := none }, accessFlags := 1, code := some k7c1 }
def k7c2 : Code := { maxStack := 2, maxLocals := 1, code := jdk_42_method_54_code, exceptionTable := #[], attributes := #[] }
def k7m2 : Method := { name := "length", desc := "()I", sig := { parameters := [], returnType := some .int }, accessFlags := 1, code := some k7c2 }
def k7c3 : Code := { maxStack := 2, maxLocals := 2, code := jdk_42_method_56_code, exceptionTable := #[], attributes := #[] }
def k7m3 : Method := { name := "charAt", desc := "(I)C", sig := { parameters := [.int], returnType := some .char }, accessFlags := 1, code := some k7c3 }
def k7c4 : Code := { maxStack := 2, maxLocals := 3, code := jdk_42_method_66_code, exceptionTable := #[], attributes := #[] }
def k7m4 : Method := { name := "equals", desc := "(Ljava/lang/Object;)Z", sig := { parameters := [(.object "java/lang/Object")], returnType := some .boolean }, accessFlags := 1, code := some k7c4 }
def k7c5 : Code := { maxStack := 4, maxLocals := 6, code := jdk_42_method_149_code, exceptionTable := #[], attributes := #[] }
def k7m5 : Method := { name := "<init>", desc := "([CIILjava/lang/Void;)V", sig := { parameters := [(.array .char), .int, .int, (.object "java/lang/Void")], returnType := none }, accessFlags := 2, code := some k7c5 }
def k7c6 : Code := { maxStack := 1, maxLocals := 1, code := jdk_42_method_152_code, exceptionTable := #[], attributes := #[] }
def k7m6 : Method := { name := "coder", desc := "()B", sig := { parameters := [], returnType := some .byte }, accessFlags := 0, code := some k7c6 }
def k7c7 : Code := { maxStack := 1, maxLocals := 1, code := jdk_42_method_154_code, exceptionTable := #[], attributes := #[] }
def k7m7 : Method := { name := "isLatin1", desc := "()Z", sig := { parameters := [], returnType := some .boolean }, accessFlags := 0, code := some k7c7 }
def k7c8 : Code := { maxStack := 3, maxLocals := 2, code := jdk_42_method_155_code, exceptionTable := #[], attributes := #[] }
def k7m8 : Method := { name := "checkIndex", desc := "(II)V", sig := { parameters := [.int, .int], returnType := none }, accessFlags := 8, code := some k7c8 }
/-- java/lang/String -/
def k7 : Class := { plain "java/lang/String" (some 0) with
  accessFlags := 49
  interfaces := #[2, 3, 4, 5, 6]
  cf := some (fileOf pool7 10 #[.nestMembers #[1103]] #[{ accessFlags := 1, nameIndex := 5, descriptorIndex := 6, attributes := #[] }, { accessFlags := 1, nameIndex := 5, descriptorIndex := 1010, attributes := #[] }, { accessFlags := 1, nameIndex := 507, descriptorIndex := 334, attributes := #[] }, { accessFlags := 1, nameIndex := 497, descriptorIndex := 427, attributes := #[] }, { accessFlags := 1, nameIndex := 543, descriptorIndex := 573, attributes := #[] }, { accessFlags := 2, nameIndex := 5, descriptorIndex := 29, attributes := #[] }, { accessFlags := 0, nameIndex := 17, descriptorIndex := 337, attributes := #[] }, { accessFlags := 0, nameIndex := 494, descriptorIndex := 142, attributes := #[] }, { accessFlags := 8, nameIndex := 501, descriptorIndex := 391, attributes := #[] }] 49 2 #[1106, 1108, 575, 1110, 1112] #[{ accessFlags := 18, nameIndex := 13, descriptorIndex := 14, attributes := #[] }, { accessFlags := 18, nameIndex := 17, descriptorIndex := 18, attributes := #[] }, { accessFlags := 2, nameIndex := 21, descriptorIndex := 22, attributes := #[] }, { accessFlags := 2, nameIndex := 25, descriptorIndex := 26, attributes := #[] }, { accessFlags := 26, nameIndex := 1116, descriptorIndex := 1117, attributes := #[] }, { accessFlags := 24, nameIndex := 40, descriptorIndex := 26, attributes := #[] }, { accessFlags := 26, nameIndex := 1101, descriptorIndex := 1102, attributes := #[] }, { accessFlags := 26, nameIndex := 1121, descriptorIndex := 1122, attributes := #[] }, { accessFlags := 25, nameIndex := 599, descriptorIndex := 600, attributes := #[] }, { accessFlags := 24, nameIndex := 1125, descriptorIndex := 18, attributes := #[] }, { accessFlags := 24, nameIndex := 1127, descriptorIndex := 18, attributes := #[] }])
  fields := #[{ name := "value", type := (.array .byte), accessFlags := 18, slot := 0, constantValue := 0 }, { name := "coder", type := .byte, accessFlags := 18, slot := 1, constantValue := 0 }, { name := "hash", type := .int, accessFlags := 2, slot := 2, constantValue := 0 }, { name := "hashIsZero", type := .boolean, accessFlags := 2, slot := 3, constantValue := 0 }, { name := "serialVersionUID", type := .long, accessFlags := 26, slot := 0, constantValue := 0 }, { name := "COMPACT_STRINGS", type := .boolean, accessFlags := 24, slot := 1, constantValue := 0 }, { name := "serialPersistentFields", type := (.array (.object "java/io/ObjectStreamField")), accessFlags := 26, slot := 2, constantValue := 0 }, { name := "REPL", type := .char, accessFlags := 26, slot := 3, constantValue := 0 }, { name := "CASE_INSENSITIVE_ORDER", type := (.object "java/util/Comparator"), accessFlags := 25, slot := 4, constantValue := 0 }, { name := "LATIN1", type := .byte, accessFlags := 24, slot := 5, constantValue := 0 }, { name := "UTF16", type := .byte, accessFlags := 24, slot := 6, constantValue := 0 }]
  methods := #[k7m0, k7m1, k7m2, k7m3, k7m4, k7m5, k7m6, k7m7, k7m8]
  instanceTypes := #[(.array .byte), .byte, .int, .boolean]
  staticTypes := #[.long, .boolean, (.array (.object "java/io/ObjectStreamField")), .char, (.object "java/util/Comparator"), .byte, .byte]
  resolved := Array.replicate 1451 none
  statics := some 0 }

def pool8 : Array CpInfo := pool [(6, .class_ 8), (1, u "java/lang/Object"), (0, u "<init>"), (0, u "()V"), (1, .class_ 14), (1, u "java/lang/StringUTF16"), (31, u "$assertionsDisabled"), (0, u "Z"), (13, u "HI_BYTE_SHIFT"), (0, u "I"), (2, u "LO_BYTE_SHIFT"), (49, .methodref 12 116), (0, .nameAndType 117 118), (0, u "compress"), (0, u "([CI[BII)I"), (3, u "([CII)[B"), (138, u "coderFromArrayLen"), (0, u "([BI)B"), (106, .class_ 371), (1, u "java/lang/StringUTF16$LinesSpliterator"), (58, u "MAX_LENGTH"), (196, .class_ 628), (0, u "java/lang/StringUTF16$CodePointsSpliterator"), (0, .class_ 630), (0, u "java/lang/StringUTF16$CharsSpliterator")] 4

def k8m0 : Method := { name := "<init>", desc := "()V", sig := { parameters := [], returnType := none }, accessFlags := 0, code := none }
def k8c1 : Code := { maxStack := 2, maxLocals := 2, code := jdk_52_method_15_code, exceptionTable := #[], attributes := #[] }
def k8m1 : Method := { name := "coderFromArrayLen", desc := "([BI)B", sig := { parameters := [(.array .byte), .int], returnType := some .byte }, accessFlags := 8, code := some k8c1 }
def k8c2 : Code := { maxStack := 5, maxLocals := 6, code := jdk_52_method_16_code, exceptionTable := #[], attributes := #[] }
def k8m2 : Method := { name := "compress", desc := "([CII)[B", sig := { parameters := [(.array .char), .int, .int], returnType := some (.array .byte) }, accessFlags := 9, code := some k8c2 }
def k8c3 : Code := { maxStack := 3, maxLocals := 7, code := jdk_52_method_21_code, exceptionTable := #[], attributes := #[] }
def k8m3 : Method := { name := "compress", desc := "([CI[BII)I", sig := { parameters := [(.array .char), .int, (.array .byte), .int, .int], returnType := some .int }, accessFlags := 9, code := some k8c3 }
/-- java/lang/StringUTF16 -/
def k8 : Class := { plain "java/lang/StringUTF16" (some 0) with
  accessFlags := 48
  interfaces := #[]
  cf := some (fileOf pool8 12 #[.nestMembers #[627, 629, 369]] #[{ accessFlags := 0, nameIndex := 9, descriptorIndex := 10, attributes := #[] }, { accessFlags := 8, nameIndex := 261, descriptorIndex := 262, attributes := #[] }, { accessFlags := 9, nameIndex := 117, descriptorIndex := 122, attributes := #[] }, { accessFlags := 9, nameIndex := 117, descriptorIndex := 118, attributes := #[] }] 48 6 #[] #[{ accessFlags := 26, nameIndex := 61, descriptorIndex := 62, attributes := #[] }, { accessFlags := 26, nameIndex := 65, descriptorIndex := 62, attributes := #[] }, { accessFlags := 24, nameIndex := 430, descriptorIndex := 62, attributes := #[] }, { accessFlags := 4120, nameIndex := 46, descriptorIndex := 47, attributes := #[] }])
  fields := #[{ name := "HI_BYTE_SHIFT", type := .int, accessFlags := 26, slot := 0, constantValue := 0 }, { name := "LO_BYTE_SHIFT", type := .int, accessFlags := 26, slot := 1, constantValue := 0 }, { name := "MAX_LENGTH", type := .int, accessFlags := 24, slot := 2, constantValue := 0 }, { name := "$assertionsDisabled", type := .boolean, accessFlags := 4120, slot := 3, constantValue := 0 }]
  methods := #[k8m0, k8m1, k8m2, k8m3]
  instanceTypes := #[]
  staticTypes := #[.int, .int, .int, .boolean]
  resolved := Array.replicate 635 none
  statics := none }

def pool9 : Array CpInfo := pool [(2, .class_ 4), (1, u "org/osgi/framework/Version"), (0, u "<init>"), (0, u "(IIILjava/lang/String;)V"), (0, .methodref 8 9), (0, .class_ 10), (0, .nameAndType 5 11), (0, u "java/lang/Object"), (0, u "()V"), (0, .fieldref 2 13), (0, .nameAndType 14 15), (0, u "major"), (0, u "I"), (0, .fieldref 2 17), (0, .nameAndType 18 15), (0, u "minor"), (0, .fieldref 2 20), (0, .nameAndType 21 15), (0, u "micro"), (0, .string 23), (0, u ""), (0, .fieldref 2 25), (0, .nameAndType 26 27), (0, u "qualifier"), (0, u "Ljava/lang/String;"), (0, .methodref 2 29), (0, .nameAndType 30 11), (0, u "validate"), (3, .class_ 36), (1, u "java/lang/String"), (22, u "emptyVersion"), (0, u "Lorg/osgi/framework/Version;"), (14, u "()I"), (0, .methodref 34 77), (0, .nameAndType 78 79), (0, u "equals"), (0, u "(Ljava/lang/Object;)Z"), (11, .methodref 34 92), (0, .nameAndType 93 75), (0, u "length"), (0, .methodref 34 95), (0, .nameAndType 96 97), (0, u "charAt"), (0, u "(I)C"), (24, .class_ 123), (0, u "java/lang/Comparable"), (0, u "SEPARATOR")] 53

def k9c0 : Code := { maxStack := 2, maxLocals := 5, code := prog_142_method_2_code, exceptionTable := #[], attributes := #[] }
def k9m0 : Method := { name := "<init>", desc := "(IIILjava/lang/String;)V", sig := { parameters := [.int, .int, .int, (.object "java/lang/String")], returnType := none }, accessFlags := 1, code := some k9c0 }
def k9c1 : Code := { maxStack := 2, maxLocals := 3, code := prog_142_method_11_code, exceptionTable := #[], attributes := #[] }
def k9m1 : Method := { name := "equals", desc := "(Ljava/lang/Object;)Z", sig := { parameters := [(.object "java/lang/Object")], returnType := some .boolean }, accessFlags := 1, code := some k9c1 }
def k9c2 : Code := { maxStack := 4, maxLocals := 4, code := prog_142_method_14_code, exceptionTable := #[], attributes := #[] }
def k9m2 : Method := { name := "validate", desc := "()V", sig := { parameters := [], returnType := none }, accessFlags := 2, code := some k9c2 }
/-- org/osgi/framework/Version -/
def k9 : Class := { plain "org/osgi/framework/Version" (some 0) with
  accessFlags := 33
  interfaces := #[3]
  cf := some (fileOf pool9 2 #[] #[{ accessFlags := 1, nameIndex := 5, descriptorIndex := 6, attributes := #[] }, { accessFlags := 1, nameIndex := 78, descriptorIndex := 79, attributes := #[] }, { accessFlags := 2, nameIndex := 30, descriptorIndex := 11, attributes := #[] }] 33 8 #[122] #[{ accessFlags := 25, nameIndex := 59, descriptorIndex := 60, attributes := #[] }, { accessFlags := 26, nameIndex := 124, descriptorIndex := 27, attributes := #[] }, { accessFlags := 18, nameIndex := 14, descriptorIndex := 15, attributes := #[] }, { accessFlags := 18, nameIndex := 18, descriptorIndex := 15, attributes := #[] }, { accessFlags := 18, nameIndex := 21, descriptorIndex := 15, attributes := #[] }, { accessFlags := 18, nameIndex := 26, descriptorIndex := 27, attributes := #[] }])
  fields := #[{ name := "emptyVersion", type := (.object "org/osgi/framework/Version"), accessFlags := 25, slot := 0, constantValue := 0 }, { name := "SEPARATOR", type := (.object "java/lang/String"), accessFlags := 26, slot := 1, constantValue := 0 }, { name := "major", type := .int, accessFlags := 18, slot := 0, constantValue := 0 }, { name := "minor", type := .int, accessFlags := 18, slot := 1, constantValue := 0 }, { name := "micro", type := .int, accessFlags := 18, slot := 2, constantValue := 0 }, { name := "qualifier", type := (.object "java/lang/String"), accessFlags := 18, slot := 3, constantValue := 0 }]
  methods := #[k9m0, k9m1, k9m2]
  instanceTypes := #[.int, .int, .int, (.object "java/lang/String")]
  staticTypes := #[(.object "org/osgi/framework/Version"), (.object "java/lang/String")]
  resolved := Array.replicate 178 none
  statics := none }

def pool10 : Array CpInfo := pool [(1, .class_ 2), (0, u "java/lang/String"), (1, .class_ 6), (1, u "java/lang/Object"), (0, u "<init>"), (0, u "()V"), (0, .methodref 1 10), (0, .nameAndType 11 12), (0, u "checkIndex"), (0, u "(II)V"), (1, .class_ 16), (1, u "java/lang/StringLatin1"), (36, u "([BI)C"), (67, u "$assertionsDisabled"), (0, u "Z"), (98, .class_ 223), (1, u "java/lang/StringLatin1$LinesSpliterator"), (28, u "charAt"), (28, u "equals"), (0, u "([B[B)Z"), (107, .class_ 391), (0, u "java/lang/StringLatin1$CharsSpliterator")] 3

def k10m0 : Method := { name := "<init>", desc := "()V", sig := { parameters := [], returnType := none }, accessFlags := 0, code := none }
def k10c1 : Code := { maxStack := 2, maxLocals := 2, code := jdk_43_method_2_code, exceptionTable := #[], attributes := #[] }
def k10m1 : Method := { name := "charAt", desc := "([BI)C", sig := { parameters := [(.array .byte), .int], returnType := some .char }, accessFlags := 9, code := some k10c1 }
def k10c2 : Code := { maxStack := 3, maxLocals := 3, code := jdk_43_method_13_code, exceptionTable := #[], attributes := #[] }
def k10m2 : Method := { name := "equals", desc := "([B[B)Z", sig := { parameters := [(.array .byte), (.array .byte)], returnType := some .boolean }, accessFlags := 9, code := some k10c2 }
/-- java/lang/StringLatin1 -/
def k10 : Class := { plain "java/lang/StringLatin1" (some 0) with
  accessFlags := 48
  interfaces := #[]
  cf := some (fileOf pool10 14 #[.nestMembers #[390, 221]] #[{ accessFlags := 0, nameIndex := 7, descriptorIndex := 8, attributes := #[] }, { accessFlags := 9, nameIndex := 252, descriptorIndex := 53, attributes := #[] }, { accessFlags := 9, nameIndex := 281, descriptorIndex := 282, attributes := #[] }] 48 4 #[] #[{ accessFlags := 4120, nameIndex := 121, descriptorIndex := 122, attributes := #[] }])
  fields := #[{ name := "$assertionsDisabled", type := .boolean, accessFlags := 4120, slot := 0, constantValue := 0 }]
  methods := #[k10m0, k10m1, k10m2]
  instanceTypes := #[]
  staticTypes := #[.boolean]
  resolved := Array.replicate 395 none
  statics := none }

def pool11 : Array CpInfo := pool [(2, .class_ 4), (1, u "java/lang/Object"), (0, u "<init>"), (0, u "()V"), (17, .class_ 26), (1, u "jdk/internal/util/Preconditions"), (6, u "checkIndex"), (21, .class_ 56), (0, u "jdk/internal/util/Preconditions$4"), (57, .class_ 115), (0, u "jdk/internal/util/Preconditions$1"), (7, u "SIOOBE_FORMATTER"), (0, u "Ljava/util/function/BiFunction;"), (0, .class_ 126), (0, u "jdk/internal/util/Preconditions$2"), (3, u "AIOOBE_FORMATTER"), (0, .class_ 132), (0, u "jdk/internal/util/Preconditions$3"), (3, u "IOOBE_FORMATTER"), (41, u "(IILjava/util/function/BiFunction;)I")] 15

def k11m0 : Method := { name := "<init>", desc := "()V", sig := { parameters := [], returnType := none }, accessFlags := 1, code := none }
def k11c1 : Code := { maxStack := 3, maxLocals := 3, code := jdk_41_method_11_code, exceptionTable := #[], attributes := #[] }
def k11m1 : Method := { name := "checkIndex", desc := "(IILjava/util/function/BiFunction;)I", sig := { parameters := [.int, .int, (.object "java/util/function/BiFunction")], returnType := some .int }, accessFlags := 9, code := some k11c1 }
/-- jdk/internal/util/Preconditions -/
def k11 : Class := { plain "jdk/internal/util/Preconditions" (some 0) with
  accessFlags := 33
  interfaces := #[]
  cf := some (fileOf pool11 24 #[.nestMembers #[55, 131, 125, 114]] #[{ accessFlags := 1, nameIndex := 5, descriptorIndex := 6, attributes := #[] }, { accessFlags := 9, nameIndex := 33, descriptorIndex := 178, attributes := #[] }] 33 2 #[] #[{ accessFlags := 25, nameIndex := 123, descriptorIndex := 124, attributes := #[] }, { accessFlags := 25, nameIndex := 130, descriptorIndex := 124, attributes := #[] }, { accessFlags := 25, nameIndex := 136, descriptorIndex := 124, attributes := #[] }])
  fields := #[{ name := "SIOOBE_FORMATTER", type := (.object "java/util/function/BiFunction"), accessFlags := 25, slot := 0, constantValue := 0 }, { name := "AIOOBE_FORMATTER", type := (.object "java/util/function/BiFunction"), accessFlags := 25, slot := 1, constantValue := 0 }, { name := "IOOBE_FORMATTER", type := (.object "java/util/function/BiFunction"), accessFlags := 25, slot := 2, constantValue := 0 }]
  methods := #[k11m0, k11m1]
  instanceTypes := #[]
  staticTypes := #[(.object "java/util/function/BiFunction"), (.object "java/util/function/BiFunction"), (.object "java/util/function/BiFunction")]
  resolved := Array.replicate 194 none
  statics := some 1 }

def pool12 : Array CpInfo := pool [(1, .methodref 2 3), (0, .class_ 4), (0, .nameAndType 5 6), (0, u "java/lang/Object"), (0, u "<init>"), (0, u "()V"), (1, .class_ 10), (1, u "java/lang/Number"), (2, .class_ 14), (0, u "java/io/Serializable"), (0, u "serialVersionUID"), (0, u "J")] 20

def k12c0 : Code := { maxStack := 1, maxLocals := 1, code := jdk_18_method_1_code, exceptionTable := #[], attributes := #[] }
def k12m0 : Method := { name := "<init>", desc := "()V", sig := { parameters := [], returnType := none }, accessFlags := 1, code := some k12c0 }
/-- java/lang/Number -/
def k12 : Class := { plain "java/lang/Number" (some 0) with
  accessFlags := 1057
  interfaces := #[2]
  cf := some (fileOf pool12 8 #[] #[{ accessFlags := 1, nameIndex := 5, descriptorIndex := 6, attributes := #[] }] 1057 2 #[13] #[{ accessFlags := 26, nameIndex := 15, descriptorIndex := 16, attributes := #[] }])
  fields := #[{ name := "serialVersionUID", type := .long, accessFlags := 26, slot := 0, constantValue := 0 }]
  methods := #[k12m0]
  instanceTypes := #[]
  staticTypes := #[.long]
  resolved := Array.replicate 37 none
  statics := none }

def pool13 : Array CpInfo := pool [(1, .class_ 2), (0, u "java/lang/Integer"), (16, u "digits"), (0, u "[C"), (46, u "<init>"), (17, u "DigitOnes"), (0, u "[B"), (2, u "DigitTens"), (10, .nameAndType 67 101), (0, u "()V"), (85, u "valueOf"), (0, u "(I)Ljava/lang/Integer;"), (0, .class_ 190), (0, u "java/lang/Integer$IntegerCache"), (0, .fieldref 189 192), (0, .nameAndType 193 194), (0, u "high"), (0, u "I"), (0, .fieldref 189 196), (0, .nameAndType 197 198), (0, u "cache"), (0, u "[Ljava/lang/Integer;"), (0, .methodref 1 200), (0, .nameAndType 67 201), (0, u "(I)V"), (0, .methodref 203 100), (0, .class_ 204), (0, u "java/lang/Number"), (0, .fieldref 1 206), (0, .nameAndType 207 194), (0, u "value"), (94, u "TYPE"), (0, u "Ljava/lang/Class;"), (0, .class_ 305), (0, u "java/lang/Comparable"), (0, .class_ 307), (0, u "java/lang/constant/Constable"), (0, .class_ 309), (0, u "java/lang/constant/ConstantDesc"), (0, u "MIN_VALUE"), (1, u "MAX_VALUE"), (3, u "SIZE"), (1, u "BYTES"), (1, u "serialVersionUID"), (0, u "J")] 131

def k13c0 : Code := { maxStack := 3, maxLocals := 1, code := jdk_33_method_22_code, exceptionTable := #[], attributes := #[] }
def k13m0 : Method := { name := "valueOf", desc := "(I)Ljava/lang/Integer;", sig := { parameters := [.int], returnType := some (.object "java/lang/Integer") }, accessFlags := 9, code := some k13c0 }
def k13c1 : Code := { maxStack := 2, maxLocals := 2, code := jdk_33_method_23_code, exceptionTable := #[], attributes := #[] }
def k13m1 : Method := { name := "<init>", desc := "(I)V", sig := { parameters := [.int], returnType := none }, accessFlags := 1, code := some k13c1 }
/-- java/lang/Integer -/
def k13 : Class := { plain "java/lang/Integer" (some 12) with
  accessFlags := 49
  interfaces := #[3, 5, 6]
  cf := some (fileOf pool13 1 #[.nestMembers #[189]] #[{ accessFlags := 9, nameIndex := 187, descriptorIndex := 188, attributes := #[] }, { accessFlags := 1, nameIndex := 67, descriptorIndex := 201, attributes := #[] }] 49 203 #[304, 306, 308] #[{ accessFlags := 25, nameIndex := 310, descriptorIndex := 194, attributes := #[] }, { accessFlags := 25, nameIndex := 312, descriptorIndex := 194, attributes := #[] }, { accessFlags := 25, nameIndex := 302, descriptorIndex := 303, attributes := #[] }, { accessFlags := 24, nameIndex := 19, descriptorIndex := 20, attributes := #[] }, { accessFlags := 24, nameIndex := 89, descriptorIndex := 86, attributes := #[] }, { accessFlags := 24, nameIndex := 85, descriptorIndex := 86, attributes := #[] }, { accessFlags := 18, nameIndex := 207, descriptorIndex := 194, attributes := #[] }, { accessFlags := 25, nameIndex := 316, descriptorIndex := 194, attributes := #[] }, { accessFlags := 25, nameIndex := 318, descriptorIndex := 194, attributes := #[] }, { accessFlags := 26, nameIndex := 320, descriptorIndex := 321, attributes := #[] }])
  fields := #[{ name := "MIN_VALUE", type := .int, accessFlags := 25, slot := 0, constantValue := 0 }, { name := "MAX_VALUE", type := .int, accessFlags := 25, slot := 1, constantValue := 0 }, { name := "TYPE", type := (.object "java/lang/Class"), accessFlags := 25, slot := 2, constantValue := 0 }, { name := "digits", type := (.array .char), accessFlags := 24, slot := 3, constantValue := 0 }, { name := "DigitTens", type := (.array .byte), accessFlags := 24, slot := 4, constantValue := 0 }, { name := "DigitOnes", type := (.array .byte), accessFlags := 24, slot := 5, constantValue := 0 }, { name := "value", type := .int, accessFlags := 18, slot := 0, constantValue := 0 }, { name := "SIZE", type := .int, accessFlags := 25, slot := 6, constantValue := 0 }, { name := "BYTES", type := .int, accessFlags := 25, slot := 7, constantValue := 0 }, { name := "serialVersionUID", type := .long, accessFlags := 26, slot := 8, constantValue := 0 }]
  methods := #[k13m0, k13m1]
  instanceTypes := #[.int]
  staticTypes := #[.int, .int, (.object "java/lang/Class"), (.array .char), (.array .byte), (.array .byte), .int, .int, .long]
  resolved := Array.replicate 453 none
  statics := none }

def pool14 : Array CpInfo := pool [(2, .class_ 4), (1, u "java/lang/Object"), (0, u "<init>"), (0, u "()V"), (0, .class_ 8), (0, u "java/lang/Integer"), (7, .class_ 18), (1, u "java/lang/Integer$IntegerCache"), (0, u "$assertionsDisabled"), (0, u "Z"), (26, u "high"), (0, u "I"), (8, u "archivedCache"), (0, u "[Ljava/lang/Integer;"), (12, u "cache"), (0, u "low")] 27

def k14m0 : Method := { name := "<init>", desc := "()V", sig := { parameters := [], returnType := none }, accessFlags := 2, code := none }
/-- java/lang/Integer$IntegerCache -/
def k14 : Class := { plain "java/lang/Integer$IntegerCache" (some 0) with
  accessFlags := 48
  interfaces := #[]
  cf := some (fileOf pool14 16 #[.nestHost 7] #[{ accessFlags := 2, nameIndex := 5, descriptorIndex := 6, attributes := #[] }] 48 2 #[] #[{ accessFlags := 24, nameIndex := 72, descriptorIndex := 48, attributes := #[] }, { accessFlags := 24, nameIndex := 47, descriptorIndex := 48, attributes := #[] }, { accessFlags := 24, nameIndex := 71, descriptorIndex := 58, attributes := #[] }, { accessFlags := 8, nameIndex := 57, descriptorIndex := 58, attributes := #[] }, { accessFlags := 4120, nameIndex := 19, descriptorIndex := 20, attributes := #[] }])
  fields := #[{ name := "low", type := .int, accessFlags := 24, slot := 0, constantValue := 0 }, { name := "high", type := .int, accessFlags := 24, slot := 1, constantValue := 0 }, { name := "cache", type := (.array (.object "java/lang/Integer")), accessFlags := 24, slot := 2, constantValue := 0 }, { name := "archivedCache", type := (.array (.object "java/lang/Integer")), accessFlags := 8, slot := 3, constantValue := 0 }, { name := "$assertionsDisabled", type := .boolean, accessFlags := 4120, slot := 4, constantValue := 0 }]
  methods := #[k14m0]
  instanceTypes := #[]
  staticTypes := #[.int, .int, (.array (.object "java/lang/Integer")), (.array (.object "java/lang/Integer")), .boolean]
  resolved := Array.replicate 100 none
  statics := some 2 }

def pool15 : Array CpInfo := pool [(9, u "<init>"), (6, .class_ 18), (1, u "java/lang/Object"), (0, u "()V"), (1, .class_ 23), (1, u "jdk/internal/util/ArraysSupport"), (0, u "LOG2_ARRAY_LONG_INDEX_SCALE"), (0, u "I"), (2, u "U"), (0, u "Ljdk/internal/misc/Unsafe;"), (8, u "BIG_ENDIAN"), (0, u "Z"), (8, u "LOG2_BYTE_BIT_SIZE"), (4, u "LOG2_ARRAY_INT_INDEX_SCALE"), (54, u "JLA"), (0, u "Ljdk/internal/access/JavaLangAccess;"), (11, u "LOG2_ARRAY_BOOLEAN_INDEX_SCALE"), (9, u "LOG2_ARRAY_BYTE_INDEX_SCALE"), (5, u "LOG2_ARRAY_CHAR_INDEX_SCALE"), (5, u "LOG2_ARRAY_SHORT_INDEX_SCALE"), (18, u "LOG2_ARRAY_FLOAT_INDEX_SCALE"), (24, u "LOG2_ARRAY_DOUBLE_INDEX_SCALE"), (89, u "T_BOOLEAN"), (2, u "T_CHAR"), (1, u "T_FLOAT"), (1, u "T_DOUBLE"), (1, u "T_BYTE"), (1, u "T_SHORT"), (1, u "T_INT"), (1, u "T_LONG"), (1, u "SOFT_MAX_ARRAY_LENGTH")] 83

def k15m0 : Method := { name := "<init>", desc := "()V", sig := { parameters := [], returnType := none }, accessFlags := 2, code := none }
/-- jdk/internal/util/ArraysSupport -/
def k15 : Class := { plain "jdk/internal/util/ArraysSupport" (some 0) with
  accessFlags := 33
  interfaces := #[]
  cf := some (fileOf pool15 21 #[] #[{ accessFlags := 2, nameIndex := 9, descriptorIndex := 19, attributes := #[] }] 33 16 #[] #[{ accessFlags := 24, nameIndex := 28, descriptorIndex := 29, attributes := #[] }, { accessFlags := 26, nameIndex := 38, descriptorIndex := 39, attributes := #[] }, { accessFlags := 25, nameIndex := 121, descriptorIndex := 25, attributes := #[] }, { accessFlags := 25, nameIndex := 131, descriptorIndex := 25, attributes := #[] }, { accessFlags := 25, nameIndex := 137, descriptorIndex := 25, attributes := #[] }, { accessFlags := 25, nameIndex := 143, descriptorIndex := 25, attributes := #[] }, { accessFlags := 25, nameIndex := 53, descriptorIndex := 25, attributes := #[] }, { accessFlags := 25, nameIndex := 24, descriptorIndex := 25, attributes := #[] }, { accessFlags := 25, nameIndex := 162, descriptorIndex := 25, attributes := #[] }, { accessFlags := 25, nameIndex := 187, descriptorIndex := 25, attributes := #[] }, { accessFlags := 26, nameIndex := 48, descriptorIndex := 25, attributes := #[] }, { accessFlags := 25, nameIndex := 277, descriptorIndex := 25, attributes := #[] }, { accessFlags := 25, nameIndex := 280, descriptorIndex := 25, attributes := #[] }, { accessFlags := 25, nameIndex := 282, descriptorIndex := 25, attributes := #[] }, { accessFlags := 25, nameIndex := 284, descriptorIndex := 25, attributes := #[] }, { accessFlags := 25, nameIndex := 286, descriptorIndex := 25, attributes := #[] }, { accessFlags := 25, nameIndex := 288, descriptorIndex := 25, attributes := #[] }, { accessFlags := 25, nameIndex := 290, descriptorIndex := 25, attributes := #[] }, { accessFlags := 25, nameIndex := 292, descriptorIndex := 25, attributes := #[] }, { accessFlags := 26, nameIndex := 108, descriptorIndex := 109, attributes := #[] }, { accessFlags := 25, nameIndex := 294, descriptorIndex := 25, attributes := #[] }])
  fields := #[{ name := "U", type := (.object "jdk/internal/misc/Unsafe"), accessFlags := 24, slot := 0, constantValue := 0 }, { name := "BIG_ENDIAN", type := .boolean, accessFlags := 26, slot := 1, constantValue := 0 }, { name := "LOG2_ARRAY_BOOLEAN_INDEX_SCALE", type := .int, accessFlags := 25, slot := 2, constantValue := 0 }, { name := "LOG2_ARRAY_BYTE_INDEX_SCALE", type := .int, accessFlags := 25, slot := 3, constantValue := 0 }, { name := "LOG2_ARRAY_CHAR_INDEX_SCALE", type := .int, accessFlags := 25, slot := 4, constantValue := 0 }, { name := "LOG2_ARRAY_SHORT_INDEX_SCALE", type := .int, accessFlags := 25, slot := 5, constantValue := 0 }, { name := "LOG2_ARRAY_INT_INDEX_SCALE", type := .int, accessFlags := 25, slot := 6, constantValue := 0 }, { name := "LOG2_ARRAY_LONG_INDEX_SCALE", type := .int, accessFlags := 25, slot := 7, constantValue := 0 }, { name := "LOG2_ARRAY_FLOAT_INDEX_SCALE", type := .int, accessFlags := 25, slot := 8, constantValue := 0 }, { name := "LOG2_ARRAY_DOUBLE_INDEX_SCALE", type := .int, accessFlags := 25, slot := 9, constantValue := 0 }, { name := "LOG2_BYTE_BIT_SIZE", type := .int, accessFlags := 26, slot := 10, constantValue := 0 }, { name := "T_BOOLEAN", type := .int, accessFlags := 25, slot := 11, constantValue := 0 }, { name := "T_CHAR", type := .int, accessFlags := 25, slot := 12, constantValue := 0 }, { name := "T_FLOAT", type := .int, accessFlags := 25, slot := 13, constantValue := 0 }, { name := "T_DOUBLE", type := .int, accessFlags := 25, slot := 14, constantValue := 0 }, { name := "T_BYTE", type := .int, accessFlags := 25, slot := 15, constantValue := 0 }, { name := "T_SHORT", type := .int, accessFlags := 25, slot := 16, constantValue := 0 }, { name := "T_INT", type := .int, accessFlags := 25, slot := 17, constantValue := 0 }, { name := "T_LONG", type := .int, accessFlags := 25, slot := 18, constantValue := 0 }, { name := "JLA", type := (.object "jdk/internal/access/JavaLangAccess"), accessFlags := 26, slot := 19, constantValue := 0 }, { name := "SOFT_MAX_ARRAY_LENGTH", type := .int, accessFlags := 25, slot := 20, constantValue := 0 }]
  methods := #[k15m0]
  instanceTypes := #[]
  staticTypes := #[(.object "jdk/internal/misc/Unsafe"), .boolean, .int, .int, .int, .int, .int, .int, .int, .int, .int, .int, .int, .int, .int, .int, .int, .int, .int, (.object "jdk/internal/access/JavaLangAccess"), .int]
  resolved := Array.replicate 378 none
  statics := none }

def pool16 : Array CpInfo := pool [(1, u "java/lang/Cloneable"), (0, .class_ 1), (0, u "java/lang/Object"), (0, .class_ 3)] 3

/-- java/lang/Cloneable -/
def k16 : Class := { plain "java/lang/Cloneable" (some 0) with
  accessFlags := 1537
  interfaces := #[]
  cf := some (fileOf pool16 2 #[] #[] 1537 4 #[] #[])
  fields := #[]
  methods := #[]
  instanceTypes := #[]
  staticTypes := #[]
  resolved := Array.replicate 8 none
  statics := none }

/-- the primitive byte -/
def k17 : Class := { plain "byte" none with kind := .primitive 'B', accessFlags := 0x411 }
/-- [B -/
def k18 : Class := { plain "[B" (some 0) with kind := .array 17 .byte, interfaces := #[16, 2], accessFlags := 1041 }

/-- the primitive char -/
def k19 : Class := { plain "char" none with kind := .primitive 'C', accessFlags := 0x411 }
/-- [C -/
def k20 : Class := { plain "[C" (some 0) with kind := .array 19 .char, interfaces := #[16, 2], accessFlags := 1041 }

/-- the primitive int -/
def k21 : Class := { plain "int" none with kind := .primitive 'I', accessFlags := 0x411 }
/-- [I -/
def k22 : Class := { plain "[I" (some 0) with kind := .array 21 .int, interfaces := #[16, 2], accessFlags := 1041 }

/-- [Ljava/lang/Integer; -/
def k23 : Class := { plain "[Ljava/lang/Integer;" (some 0) with kind := .array 13 (.object "java/lang/Integer"), interfaces := #[16, 2], accessFlags := 1041 }

def heap : Heap := #[{ cls := 7, slots := #[.long 0, .int 1, .null, .int 0, .null, .int 0, .int 0], vm := .statics 7 },
  { cls := 11, slots := #[.null, .null, .null], vm := .statics 11 },
  { cls := 14, slots := #[.int 0, .int 127, .ref 3, .null, .int 0], vm := .statics 14 },
  { cls := 23, slots := #[.ref 4, .ref 5, .ref 6, .ref 7, .ref 8, .ref 9, .ref 10, .ref 11, .ref 12, .ref 13, .ref 14, .ref 15, .ref 16, .ref 17, .ref 18, .ref 19, .ref 20, .ref 21, .ref 22, .ref 23, .ref 24, .ref 25, .ref 26, .ref 27, .ref 28, .ref 29, .ref 30, .ref 31, .ref 32, .ref 33, .ref 34, .ref 35, .ref 36, .ref 37, .ref 38, .ref 39, .ref 40, .ref 41, .ref 42, .ref 43, .ref 44, .ref 45, .ref 46, .ref 47, .ref 48, .ref 49, .ref 50, .ref 51, .ref 52, .ref 53, .ref 54, .ref 55, .ref 56, .ref 57, .ref 58, .ref 59, .ref 60, .ref 61, .ref 62, .ref 63, .ref 64, .ref 65, .ref 66, .ref 67, .ref 68, .ref 69, .ref 70, .ref 71, .ref 72, .ref 73, .ref 74, .ref 75, .ref 76, .ref 77, .ref 78, .ref 79, .ref 80, .ref 81, .ref 82, .ref 83, .ref 84, .ref 85, .ref 86, .ref 87, .ref 88, .ref 89, .ref 90, .ref 91, .ref 92, .ref 93, .ref 94, .ref 95, .ref 96, .ref 97, .ref 98, .ref 99, .ref 100, .ref 101, .ref 102, .ref 103, .ref 104, .ref 105, .ref 106, .ref 107, .ref 108, .ref 109, .ref 110, .ref 111, .ref 112, .ref 113, .ref 114, .ref 115, .ref 116, .ref 117, .ref 118, .ref 119, .ref 120, .ref 121, .ref 122, .ref 123, .ref 124, .ref 125, .ref 126, .ref 127, .ref 128, .ref 129, .ref 130, .ref 131, .ref 132, .ref 133, .ref 134, .ref 135, .ref 136, .ref 137, .ref 138, .ref 139, .ref 140, .ref 141, .ref 142, .ref 143, .ref 144, .ref 145, .ref 146, .ref 147, .ref 148, .ref 149, .ref 150, .ref 151, .ref 152, .ref 153, .ref 154, .ref 155, .ref 156, .ref 157, .ref 158, .ref 159, .ref 160, .ref 161, .ref 162, .ref 163, .ref 164, .ref 165, .ref 166, .ref 167, .ref 168, .ref 169, .ref 170, .ref 171, .ref 172, .ref 173, .ref 174, .ref 175, .ref 176, .ref 177, .ref 178, .ref 179, .ref 180, .ref 181, .ref 182, .ref 183, .ref 184, .ref 185, .ref 186, .ref 187, .ref 188, .ref 189, .ref 190, .ref 191, .ref 192, .ref 193, .ref 194, .ref 195, .ref 196, .ref 197, .ref 198, .ref 199, .ref 200, .ref 201, .ref 202, .ref 203, .ref 204, .ref 205, .ref 206, .ref 207, .ref 208, .ref 209, .ref 210, .ref 211, .ref 212, .ref 213, .ref 214, .ref 215, .ref 216, .ref 217, .ref 218, .ref 219, .ref 220, .ref 221, .ref 222, .ref 223, .ref 224, .ref 225, .ref 226, .ref 227, .ref 228, .ref 229, .ref 230, .ref 231, .ref 232, .ref 233, .ref 234, .ref 235, .ref 236, .ref 237, .ref 238, .ref 239, .ref 240, .ref 241, .ref 242, .ref 243, .ref 244, .ref 245, .ref 246, .ref 247, .ref 248, .ref 249, .ref 250, .ref 251, .ref 252, .ref 253, .ref 254, .ref 255, .ref 256, .ref 257, .ref 258, .ref 259], vm := .none },
  { cls := 13, slots := #[.int (-128)], vm := .none },
  { cls := 13, slots := #[.int (-127)], vm := .none },
  { cls := 13, slots := #[.int (-126)], vm := .none },
  { cls := 13, slots := #[.int (-125)], vm := .none },
  { cls := 13, slots := #[.int (-124)], vm := .none },
  { cls := 13, slots := #[.int (-123)], vm := .none },
  { cls := 13, slots := #[.int (-122)], vm := .none },
  { cls := 13, slots := #[.int (-121)], vm := .none },
  { cls := 13, slots := #[.int (-120)], vm := .none },
  { cls := 13, slots := #[.int (-119)], vm := .none },
  { cls := 13, slots := #[.int (-118)], vm := .none },
  { cls := 13, slots := #[.int (-117)], vm := .none },
  { cls := 13, slots := #[.int (-116)], vm := .none },
  { cls := 13, slots := #[.int (-115)], vm := .none },
  { cls := 13, slots := #[.int (-114)], vm := .none },
  { cls := 13, slots := #[.int (-113)], vm := .none },
  { cls := 13, slots := #[.int (-112)], vm := .none },
  { cls := 13, slots := #[.int (-111)], vm := .none },
  { cls := 13, slots := #[.int (-110)], vm := .none },
  { cls := 13, slots := #[.int (-109)], vm := .none },
  { cls := 13, slots := #[.int (-108)], vm := .none },
  { cls := 13, slots := #[.int (-107)], vm := .none },
  { cls := 13, slots := #[.int (-106)], vm := .none },
  { cls := 13, slots := #[.int (-105)], vm := .none },
  { cls := 13, slots := #[.int (-104)], vm := .none },
  { cls := 13, slots := #[.int (-103)], vm := .none },
  { cls := 13, slots := #[.int (-102)], vm := .none },
  { cls := 13, slots := #[.int (-101)], vm := .none },
  { cls := 13, slots := #[.int (-100)], vm := .none },
  { cls := 13, slots := #[.int (-99)], vm := .none },
  { cls := 13, slots := #[.int (-98)], vm := .none },
  { cls := 13, slots := #[.int (-97)], vm := .none },
  { cls := 13, slots := #[.int (-96)], vm := .none },
  { cls := 13, slots := #[.int (-95)], vm := .none },
  { cls := 13, slots := #[.int (-94)], vm := .none },
  { cls := 13, slots := #[.int (-93)], vm := .none },
  { cls := 13, slots := #[.int (-92)], vm := .none },
  { cls := 13, slots := #[.int (-91)], vm := .none },
  { cls := 13, slots := #[.int (-90)], vm := .none },
  { cls := 13, slots := #[.int (-89)], vm := .none },
  { cls := 13, slots := #[.int (-88)], vm := .none },
  { cls := 13, slots := #[.int (-87)], vm := .none },
  { cls := 13, slots := #[.int (-86)], vm := .none },
  { cls := 13, slots := #[.int (-85)], vm := .none },
  { cls := 13, slots := #[.int (-84)], vm := .none },
  { cls := 13, slots := #[.int (-83)], vm := .none },
  { cls := 13, slots := #[.int (-82)], vm := .none },
  { cls := 13, slots := #[.int (-81)], vm := .none },
  { cls := 13, slots := #[.int (-80)], vm := .none },
  { cls := 13, slots := #[.int (-79)], vm := .none },
  { cls := 13, slots := #[.int (-78)], vm := .none },
  { cls := 13, slots := #[.int (-77)], vm := .none },
  { cls := 13, slots := #[.int (-76)], vm := .none },
  { cls := 13, slots := #[.int (-75)], vm := .none },
  { cls := 13, slots := #[.int (-74)], vm := .none },
  { cls := 13, slots := #[.int (-73)], vm := .none },
  { cls := 13, slots := #[.int (-72)], vm := .none },
  { cls := 13, slots := #[.int (-71)], vm := .none },
  { cls := 13, slots := #[.int (-70)], vm := .none },
  { cls := 13, slots := #[.int (-69)], vm := .none },
  { cls := 13, slots := #[.int (-68)], vm := .none },
  { cls := 13, slots := #[.int (-67)], vm := .none },
  { cls := 13, slots := #[.int (-66)], vm := .none },
  { cls := 13, slots := #[.int (-65)], vm := .none },
  { cls := 13, slots := #[.int (-64)], vm := .none },
  { cls := 13, slots := #[.int (-63)], vm := .none },
  { cls := 13, slots := #[.int (-62)], vm := .none },
  { cls := 13, slots := #[.int (-61)], vm := .none },
  { cls := 13, slots := #[.int (-60)], vm := .none },
  { cls := 13, slots := #[.int (-59)], vm := .none },
  { cls := 13, slots := #[.int (-58)], vm := .none },
  { cls := 13, slots := #[.int (-57)], vm := .none },
  { cls := 13, slots := #[.int (-56)], vm := .none },
  { cls := 13, slots := #[.int (-55)], vm := .none },
  { cls := 13, slots := #[.int (-54)], vm := .none },
  { cls := 13, slots := #[.int (-53)], vm := .none },
  { cls := 13, slots := #[.int (-52)], vm := .none },
  { cls := 13, slots := #[.int (-51)], vm := .none },
  { cls := 13, slots := #[.int (-50)], vm := .none },
  { cls := 13, slots := #[.int (-49)], vm := .none },
  { cls := 13, slots := #[.int (-48)], vm := .none },
  { cls := 13, slots := #[.int (-47)], vm := .none },
  { cls := 13, slots := #[.int (-46)], vm := .none },
  { cls := 13, slots := #[.int (-45)], vm := .none },
  { cls := 13, slots := #[.int (-44)], vm := .none },
  { cls := 13, slots := #[.int (-43)], vm := .none },
  { cls := 13, slots := #[.int (-42)], vm := .none },
  { cls := 13, slots := #[.int (-41)], vm := .none },
  { cls := 13, slots := #[.int (-40)], vm := .none },
  { cls := 13, slots := #[.int (-39)], vm := .none },
  { cls := 13, slots := #[.int (-38)], vm := .none },
  { cls := 13, slots := #[.int (-37)], vm := .none },
  { cls := 13, slots := #[.int (-36)], vm := .none },
  { cls := 13, slots := #[.int (-35)], vm := .none },
  { cls := 13, slots := #[.int (-34)], vm := .none },
  { cls := 13, slots := #[.int (-33)], vm := .none },
  { cls := 13, slots := #[.int (-32)], vm := .none },
  { cls := 13, slots := #[.int (-31)], vm := .none },
  { cls := 13, slots := #[.int (-30)], vm := .none },
  { cls := 13, slots := #[.int (-29)], vm := .none },
  { cls := 13, slots := #[.int (-28)], vm := .none },
  { cls := 13, slots := #[.int (-27)], vm := .none },
  { cls := 13, slots := #[.int (-26)], vm := .none },
  { cls := 13, slots := #[.int (-25)], vm := .none },
  { cls := 13, slots := #[.int (-24)], vm := .none },
  { cls := 13, slots := #[.int (-23)], vm := .none },
  { cls := 13, slots := #[.int (-22)], vm := .none },
  { cls := 13, slots := #[.int (-21)], vm := .none },
  { cls := 13, slots := #[.int (-20)], vm := .none },
  { cls := 13, slots := #[.int (-19)], vm := .none },
  { cls := 13, slots := #[.int (-18)], vm := .none },
  { cls := 13, slots := #[.int (-17)], vm := .none },
  { cls := 13, slots := #[.int (-16)], vm := .none },
  { cls := 13, slots := #[.int (-15)], vm := .none },
  { cls := 13, slots := #[.int (-14)], vm := .none },
  { cls := 13, slots := #[.int (-13)], vm := .none },
  { cls := 13, slots := #[.int (-12)], vm := .none },
  { cls := 13, slots := #[.int (-11)], vm := .none },
  { cls := 13, slots := #[.int (-10)], vm := .none },
  { cls := 13, slots := #[.int (-9)], vm := .none },
  { cls := 13, slots := #[.int (-8)], vm := .none },
  { cls := 13, slots := #[.int (-7)], vm := .none },
  { cls := 13, slots := #[.int (-6)], vm := .none },
  { cls := 13, slots := #[.int (-5)], vm := .none },
  { cls := 13, slots := #[.int (-4)], vm := .none },
  { cls := 13, slots := #[.int (-3)], vm := .none },
  { cls := 13, slots := #[.int (-2)], vm := .none },
  { cls := 13, slots := #[.int (-1)], vm := .none },
  { cls := 13, slots := #[.int (0)], vm := .none },
  { cls := 13, slots := #[.int (1)], vm := .none },
  { cls := 13, slots := #[.int (2)], vm := .none },
  { cls := 13, slots := #[.int (3)], vm := .none },
  { cls := 13, slots := #[.int (4)], vm := .none },
  { cls := 13, slots := #[.int (5)], vm := .none },
  { cls := 13, slots := #[.int (6)], vm := .none },
  { cls := 13, slots := #[.int (7)], vm := .none },
  { cls := 13, slots := #[.int (8)], vm := .none },
  { cls := 13, slots := #[.int (9)], vm := .none },
  { cls := 13, slots := #[.int (10)], vm := .none },
  { cls := 13, slots := #[.int (11)], vm := .none },
  { cls := 13, slots := #[.int (12)], vm := .none },
  { cls := 13, slots := #[.int (13)], vm := .none },
  { cls := 13, slots := #[.int (14)], vm := .none },
  { cls := 13, slots := #[.int (15)], vm := .none },
  { cls := 13, slots := #[.int (16)], vm := .none },
  { cls := 13, slots := #[.int (17)], vm := .none },
  { cls := 13, slots := #[.int (18)], vm := .none },
  { cls := 13, slots := #[.int (19)], vm := .none },
  { cls := 13, slots := #[.int (20)], vm := .none },
  { cls := 13, slots := #[.int (21)], vm := .none },
  { cls := 13, slots := #[.int (22)], vm := .none },
  { cls := 13, slots := #[.int (23)], vm := .none },
  { cls := 13, slots := #[.int (24)], vm := .none },
  { cls := 13, slots := #[.int (25)], vm := .none },
  { cls := 13, slots := #[.int (26)], vm := .none },
  { cls := 13, slots := #[.int (27)], vm := .none },
  { cls := 13, slots := #[.int (28)], vm := .none },
  { cls := 13, slots := #[.int (29)], vm := .none },
  { cls := 13, slots := #[.int (30)], vm := .none },
  { cls := 13, slots := #[.int (31)], vm := .none },
  { cls := 13, slots := #[.int (32)], vm := .none },
  { cls := 13, slots := #[.int (33)], vm := .none },
  { cls := 13, slots := #[.int (34)], vm := .none },
  { cls := 13, slots := #[.int (35)], vm := .none },
  { cls := 13, slots := #[.int (36)], vm := .none },
  { cls := 13, slots := #[.int (37)], vm := .none },
  { cls := 13, slots := #[.int (38)], vm := .none },
  { cls := 13, slots := #[.int (39)], vm := .none },
  { cls := 13, slots := #[.int (40)], vm := .none },
  { cls := 13, slots := #[.int (41)], vm := .none },
  { cls := 13, slots := #[.int (42)], vm := .none },
  { cls := 13, slots := #[.int (43)], vm := .none },
  { cls := 13, slots := #[.int (44)], vm := .none },
  { cls := 13, slots := #[.int (45)], vm := .none },
  { cls := 13, slots := #[.int (46)], vm := .none },
  { cls := 13, slots := #[.int (47)], vm := .none },
  { cls := 13, slots := #[.int (48)], vm := .none },
  { cls := 13, slots := #[.int (49)], vm := .none },
  { cls := 13, slots := #[.int (50)], vm := .none },
  { cls := 13, slots := #[.int (51)], vm := .none },
  { cls := 13, slots := #[.int (52)], vm := .none },
  { cls := 13, slots := #[.int (53)], vm := .none },
  { cls := 13, slots := #[.int (54)], vm := .none },
  { cls := 13, slots := #[.int (55)], vm := .none },
  { cls := 13, slots := #[.int (56)], vm := .none },
  { cls := 13, slots := #[.int (57)], vm := .none },
  { cls := 13, slots := #[.int (58)], vm := .none },
  { cls := 13, slots := #[.int (59)], vm := .none },
  { cls := 13, slots := #[.int (60)], vm := .none },
  { cls := 13, slots := #[.int (61)], vm := .none },
  { cls := 13, slots := #[.int (62)], vm := .none },
  { cls := 13, slots := #[.int (63)], vm := .none },
  { cls := 13, slots := #[.int (64)], vm := .none },
  { cls := 13, slots := #[.int (65)], vm := .none },
  { cls := 13, slots := #[.int (66)], vm := .none },
  { cls := 13, slots := #[.int (67)], vm := .none },
  { cls := 13, slots := #[.int (68)], vm := .none },
  { cls := 13, slots := #[.int (69)], vm := .none },
  { cls := 13, slots := #[.int (70)], vm := .none },
  { cls := 13, slots := #[.int (71)], vm := .none },
  { cls := 13, slots := #[.int (72)], vm := .none },
  { cls := 13, slots := #[.int (73)], vm := .none },
  { cls := 13, slots := #[.int (74)], vm := .none },
  { cls := 13, slots := #[.int (75)], vm := .none },
  { cls := 13, slots := #[.int (76)], vm := .none },
  { cls := 13, slots := #[.int (77)], vm := .none },
  { cls := 13, slots := #[.int (78)], vm := .none },
  { cls := 13, slots := #[.int (79)], vm := .none },
  { cls := 13, slots := #[.int (80)], vm := .none },
  { cls := 13, slots := #[.int (81)], vm := .none },
  { cls := 13, slots := #[.int (82)], vm := .none },
  { cls := 13, slots := #[.int (83)], vm := .none },
  { cls := 13, slots := #[.int (84)], vm := .none },
  { cls := 13, slots := #[.int (85)], vm := .none },
  { cls := 13, slots := #[.int (86)], vm := .none },
  { cls := 13, slots := #[.int (87)], vm := .none },
  { cls := 13, slots := #[.int (88)], vm := .none },
  { cls := 13, slots := #[.int (89)], vm := .none },
  { cls := 13, slots := #[.int (90)], vm := .none },
  { cls := 13, slots := #[.int (91)], vm := .none },
  { cls := 13, slots := #[.int (92)], vm := .none },
  { cls := 13, slots := #[.int (93)], vm := .none },
  { cls := 13, slots := #[.int (94)], vm := .none },
  { cls := 13, slots := #[.int (95)], vm := .none },
  { cls := 13, slots := #[.int (96)], vm := .none },
  { cls := 13, slots := #[.int (97)], vm := .none },
  { cls := 13, slots := #[.int (98)], vm := .none },
  { cls := 13, slots := #[.int (99)], vm := .none },
  { cls := 13, slots := #[.int (100)], vm := .none },
  { cls := 13, slots := #[.int (101)], vm := .none },
  { cls := 13, slots := #[.int (102)], vm := .none },
  { cls := 13, slots := #[.int (103)], vm := .none },
  { cls := 13, slots := #[.int (104)], vm := .none },
  { cls := 13, slots := #[.int (105)], vm := .none },
  { cls := 13, slots := #[.int (106)], vm := .none },
  { cls := 13, slots := #[.int (107)], vm := .none },
  { cls := 13, slots := #[.int (108)], vm := .none },
  { cls := 13, slots := #[.int (109)], vm := .none },
  { cls := 13, slots := #[.int (110)], vm := .none },
  { cls := 13, slots := #[.int (111)], vm := .none },
  { cls := 13, slots := #[.int (112)], vm := .none },
  { cls := 13, slots := #[.int (113)], vm := .none },
  { cls := 13, slots := #[.int (114)], vm := .none },
  { cls := 13, slots := #[.int (115)], vm := .none },
  { cls := 13, slots := #[.int (116)], vm := .none },
  { cls := 13, slots := #[.int (117)], vm := .none },
  { cls := 13, slots := #[.int (118)], vm := .none },
  { cls := 13, slots := #[.int (119)], vm := .none },
  { cls := 13, slots := #[.int (120)], vm := .none },
  { cls := 13, slots := #[.int (121)], vm := .none },
  { cls := 13, slots := #[.int (122)], vm := .none },
  { cls := 13, slots := #[.int (123)], vm := .none },
  { cls := 13, slots := #[.int (124)], vm := .none },
  { cls := 13, slots := #[.int (125)], vm := .none },
  { cls := 13, slots := #[.int (126)], vm := .none },
  { cls := 13, slots := #[.int (127)], vm := .none }]
def classes : Array Class := #[k0, k1, k2, k3, k4, k5, k6, k7, k8, k9, k10, k11, k12, k13, k14, k15, k16, k17, k18, k19, k20, k21, k22, k23]
def interned : List (Array UInt16 × Addr) := []
def slotsUsed : Nat := 527
def theMethod : MethodId := ⟨1, 4⟩
def args0 : Array Value := #[.int 5, .int 1, .int 2, .int 3, .long 4, .int 6]
def aboutOver (below : List Frame) : State where
  vm := { classes := classes, interned := interned.toArray }
  heap := heap
  slotsUsed := slotsUsed
  threads := #[{ frames := .invoking theMethod args0 :: below }]
def below0 : List Frame := [.native { method := ⟨0, 0⟩, args := #[] }]
def about1 : State := aboutOver below0
def p0 : Program := .bare "" "" ""
def e0 : Env := launch0.env 0 0 0
theorem w_frames : about1.frames = Frame.invoking theMethod args0 :: below0 := rfl
set_option maxRecDepth 65536 in
theorem w_args : argsFit about1.vm theMethod args0 = true := by decide +kernel
set_option maxRecDepth 65536 in
theorem w_heap : heapFits about1 = true := by decide +kernel
set_option maxRecDepth 65536 in
theorem w_runnable : about1.curStatus? = some .runnable := by decide +kernel
set_option maxRecDepth 65536 in
theorem w_alone : about1.alone = true := by decide +kernel
set_option maxRecDepth 65536 in
theorem w_named : about1.methodNamed? x = some theMethod := by decide +kernel
set_option maxRecDepth 65536 in
theorem w_hears : about1.hears theMethod below0 = true := by decide +kernel
set_option maxRecDepth 65536 in
theorem w_ripe : about1.ripe theMethod args0 below0 = true := by decide +kernel
theorem w_running : about1.status = .running := rfl
set_option maxRecDepth 65536 in
theorem w_room : about1.hasRoom e0.platform room_1 = true :=
  launch0.hasRoom_least _ room_1 (by decide +kernel) (by decide +kernel) (by decide +kernel) (by decide +kernel) (by decide +kernel) (by decide +kernel)
theorem allAtoms_all (ts : List Jvm.Cond) (a : Array Jvm.Value) (st : Jvm.State) : (allAtoms ts).before a st = ts.all (fun c => c.before a st) := by
  induction ts with
  | nil => rfl
  | cons c t ih =>
    show (Jvm.Cond.and c (allAtoms t)).before a st = _
    rw [Jvm.Cond.before_and, ih, List.all_cons]
def words1 : List Jvm.Cond := Jvm.Cond.code x code maxLocals ret :: tables_1
/-- a 'code' word, met by the world's own term for the bytes: nothing is compared byte by byte -/
theorem code_word {y : MethodName} {bytes : ByteArray} {mx : Nat} {rt : Option FieldType} {a : Array Value} {s : State} {m : MethodId} {meth : Method} {c : Code} (h1 : s.methodNamed? y = some m) (h2 : s.vm.method? m = some meth) (h3 : meth.code = some c) (h4 : c.code = bytes)
    (h5 : (c.maxLocals == mx && c.exceptionTable.isEmpty && decide (c.maxStack ≤ mostOperands) && decide (meth.sig.returnType = rt) && !meth.locks && decide (parseMethodDescriptor y.desc = some meth.sig)) = true) : (Jvm.Cond.code y bytes mx rt).before a s = true := by
  simp only [Bool.and_eq_true, beq_iff_eq, Bool.not_eq_true', decide_eq_true_eq] at h5
  obtain ⟨⟨⟨⟨⟨g1, g2⟩, g3⟩, g4⟩, g5⟩, g6⟩ := h5
  simp [Cond.before, Cond.holds, Cond.value, h1, h2, h3, h4, g1, g2, g3, g4, g5, g6]
def isCode : Jvm.Cond → Bool
  | .code _ _ _ _ => true
  | _ => false
theorem all_split {L : List Jvm.Cond} {P : Jvm.Cond → Bool} (h1 : L.all (fun c => isCode c || P c) = true) (h2 : ∀ c ∈ L.filter isCode, P c = true) : L.all P = true := by
  refine List.all_eq_true.mpr fun c hc => ?_
  have h := List.all_eq_true.mp h1 c hc
  rcases Bool.eq_false_or_eq_true (isCode c) with hi | hi
  · exact h2 c (List.mem_filter.mpr ⟨hc, hi⟩)
  · simpa [hi] using h
set_option maxRecDepth 65536 in
theorem w_c0 : (Jvm.Cond.code x code maxLocals ret).before args0 about1 = true := code_word (m := ⟨1, 4⟩) (meth := k1m4) (c := k1c4) (by decide +kernel) rfl rfl rfl (by decide +kernel)
set_option maxRecDepth 65536 in
theorem w_c1 : (Jvm.Cond.code ({ cls := "org/osgi/framework/VersionEqualsPinLaw", name := "qual", desc := "(I)Ljava/lang/String;" } : Jvm.MethodName) method_3_code (5 : Nat) (Option.some (Jvm.ClassFile.FieldType.object "java/lang/String"))).before args0 about1 = true := code_word (m := ⟨1, 2⟩) (meth := k1m2) (c := k1c2) (by decide +kernel) rfl rfl rfl (by decide +kernel)
set_option maxRecDepth 65536 in
theorem w_c2 : (Jvm.Cond.code ({ cls := "org/osgi/framework/VersionEqualsPinLaw", name := "ch", desc := "(I)C" } : Jvm.MethodName) method_2_code (2 : Nat) (Option.some Jvm.ClassFile.FieldType.char)).before args0 about1 = true := code_word (m := ⟨1, 1⟩) (meth := k1m1) (c := k1c1) (by decide +kernel) rfl rfl rfl (by decide +kernel)
set_option maxRecDepth 65536 in
theorem w_c3 : (Jvm.Cond.code ({ cls := "java/lang/String", name := "<init>", desc := "([C)V" } : Jvm.MethodName) jdk_42_method_3_code (2 : Nat) (Option.none : Option Jvm.ClassFile.FieldType)).before args0 about1 = true := code_word (m := ⟨7, 1⟩) (meth := k7m1) (c := k7c1) (by decide +kernel) rfl rfl rfl (by decide +kernel)
set_option maxRecDepth 65536 in
theorem w_c4 : (Jvm.Cond.code ({ cls := "java/lang/String", name := "<init>", desc := "([CIILjava/lang/Void;)V" } : Jvm.MethodName) jdk_42_method_149_code (6 : Nat) (Option.none : Option Jvm.ClassFile.FieldType)).before args0 about1 = true := code_word (m := ⟨7, 5⟩) (meth := k7m5) (c := k7c5) (by decide +kernel) rfl rfl rfl (by decide +kernel)
set_option maxRecDepth 65536 in
theorem w_c5 : (Jvm.Cond.code ({ cls := "java/lang/Object", name := "<init>", desc := "()V" } : Jvm.MethodName) object_method_1_code (1 : Nat) (Option.none : Option Jvm.ClassFile.FieldType)).before args0 about1 = true := code_word (m := ⟨0, 0⟩) (meth := k0m0) (c := k0c0) (by decide +kernel) rfl rfl rfl (by decide +kernel)
set_option maxRecDepth 65536 in
theorem w_c6 : (Jvm.Cond.code ({ cls := "java/lang/StringUTF16", name := "compress", desc := "([CII)[B" } : Jvm.MethodName) jdk_52_method_16_code (6 : Nat) (Option.some (Jvm.ClassFile.FieldType.array Jvm.ClassFile.FieldType.byte))).before args0 about1 = true := code_word (m := ⟨8, 2⟩) (meth := k8m2) (c := k8c2) (by decide +kernel) rfl rfl rfl (by decide +kernel)
set_option maxRecDepth 65536 in
theorem w_c7 : (Jvm.Cond.code ({ cls := "java/lang/StringUTF16", name := "compress", desc := "([CI[BII)I" } : Jvm.MethodName) jdk_52_method_21_code (7 : Nat) (Option.some Jvm.ClassFile.FieldType.int)).before args0 about1 = true := code_word (m := ⟨8, 3⟩) (meth := k8m3) (c := k8c3) (by decide +kernel) rfl rfl rfl (by decide +kernel)
set_option maxRecDepth 65536 in
theorem w_c8 : (Jvm.Cond.code ({ cls := "java/lang/StringUTF16", name := "coderFromArrayLen", desc := "([BI)B" } : Jvm.MethodName) jdk_52_method_15_code (2 : Nat) (Option.some Jvm.ClassFile.FieldType.byte)).before args0 about1 = true := code_word (m := ⟨8, 1⟩) (meth := k8m1) (c := k8c1) (by decide +kernel) rfl rfl rfl (by decide +kernel)
set_option maxRecDepth 65536 in
theorem w_c9 : (Jvm.Cond.code ({ cls := "org/osgi/framework/Version", name := "<init>", desc := "(IIILjava/lang/String;)V" } : Jvm.MethodName) prog_142_method_2_code (5 : Nat) (Option.none : Option Jvm.ClassFile.FieldType)).before args0 about1 = true := code_word (m := ⟨9, 0⟩) (meth := k9m0) (c := k9c0) (by decide +kernel) rfl rfl rfl (by decide +kernel)
set_option maxRecDepth 65536 in
theorem w_c10 : (Jvm.Cond.code ({ cls := "org/osgi/framework/Version", name := "validate", desc := "()V" } : Jvm.MethodName) prog_142_method_14_code (4 : Nat) (Option.none : Option Jvm.ClassFile.FieldType)).before args0 about1 = true := code_word (m := ⟨9, 2⟩) (meth := k9m2) (c := k9c2) (by decide +kernel) rfl rfl rfl (by decide +kernel)
set_option maxRecDepth 65536 in
theorem w_c11 : (Jvm.Cond.code ({ cls := "java/lang/String", name := "length", desc := "()I" } : Jvm.MethodName) jdk_42_method_54_code (1 : Nat) (Option.some Jvm.ClassFile.FieldType.int)).before args0 about1 = true := code_word (m := ⟨7, 2⟩) (meth := k7m2) (c := k7c2) (by decide +kernel) rfl rfl rfl (by decide +kernel)
set_option maxRecDepth 65536 in
theorem w_c12 : (Jvm.Cond.code ({ cls := "java/lang/String", name := "coder", desc := "()B" } : Jvm.MethodName) jdk_42_method_152_code (1 : Nat) (Option.some Jvm.ClassFile.FieldType.byte)).before args0 about1 = true := code_word (m := ⟨7, 6⟩) (meth := k7m6) (c := k7c6) (by decide +kernel) rfl rfl rfl (by decide +kernel)
set_option maxRecDepth 65536 in
theorem w_c13 : (Jvm.Cond.code ({ cls := "java/lang/String", name := "charAt", desc := "(I)C" } : Jvm.MethodName) jdk_42_method_56_code (2 : Nat) (Option.some Jvm.ClassFile.FieldType.char)).before args0 about1 = true := code_word (m := ⟨7, 3⟩) (meth := k7m3) (c := k7c3) (by decide +kernel) rfl rfl rfl (by decide +kernel)
set_option maxRecDepth 65536 in
theorem w_c14 : (Jvm.Cond.code ({ cls := "java/lang/String", name := "isLatin1", desc := "()Z" } : Jvm.MethodName) jdk_42_method_154_code (1 : Nat) (Option.some Jvm.ClassFile.FieldType.boolean)).before args0 about1 = true := code_word (m := ⟨7, 7⟩) (meth := k7m7) (c := k7c7) (by decide +kernel) rfl rfl rfl (by decide +kernel)
set_option maxRecDepth 65536 in
theorem w_c15 : (Jvm.Cond.code ({ cls := "java/lang/StringLatin1", name := "charAt", desc := "([BI)C" } : Jvm.MethodName) jdk_43_method_2_code (2 : Nat) (Option.some Jvm.ClassFile.FieldType.char)).before args0 about1 = true := code_word (m := ⟨10, 1⟩) (meth := k10m1) (c := k10c1) (by decide +kernel) rfl rfl rfl (by decide +kernel)
set_option maxRecDepth 65536 in
theorem w_c16 : (Jvm.Cond.code ({ cls := "java/lang/String", name := "checkIndex", desc := "(II)V" } : Jvm.MethodName) jdk_42_method_155_code (2 : Nat) (Option.none : Option Jvm.ClassFile.FieldType)).before args0 about1 = true := code_word (m := ⟨7, 8⟩) (meth := k7m8) (c := k7c8) (by decide +kernel) rfl rfl rfl (by decide +kernel)
set_option maxRecDepth 65536 in
theorem w_c17 : (Jvm.Cond.code ({ cls := "jdk/internal/util/Preconditions", name := "checkIndex", desc := "(IILjava/util/function/BiFunction;)I" } : Jvm.MethodName) jdk_41_method_11_code (3 : Nat) (Option.some Jvm.ClassFile.FieldType.int)).before args0 about1 = true := code_word (m := ⟨11, 1⟩) (meth := k11m1) (c := k11c1) (by decide +kernel) rfl rfl rfl (by decide +kernel)
set_option maxRecDepth 65536 in
theorem w_c18 : (Jvm.Cond.code ({ cls := "org/osgi/framework/Version", name := "equals", desc := "(Ljava/lang/Object;)Z" } : Jvm.MethodName) prog_142_method_11_code (3 : Nat) (Option.some Jvm.ClassFile.FieldType.boolean)).before args0 about1 = true := code_word (m := ⟨9, 1⟩) (meth := k9m1) (c := k9c1) (by decide +kernel) rfl rfl rfl (by decide +kernel)
set_option maxRecDepth 65536 in
theorem w_c19 : (Jvm.Cond.code ({ cls := "java/lang/Integer", name := "valueOf", desc := "(I)Ljava/lang/Integer;" } : Jvm.MethodName) jdk_33_method_22_code (1 : Nat) (Option.some (Jvm.ClassFile.FieldType.object "java/lang/Integer"))).before args0 about1 = true := code_word (m := ⟨13, 0⟩) (meth := k13m0) (c := k13c0) (by decide +kernel) rfl rfl rfl (by decide +kernel)
set_option maxRecDepth 65536 in
theorem w_c20 : (Jvm.Cond.code ({ cls := "java/lang/Integer", name := "<init>", desc := "(I)V" } : Jvm.MethodName) jdk_33_method_23_code (2 : Nat) (Option.none : Option Jvm.ClassFile.FieldType)).before args0 about1 = true := code_word (m := ⟨13, 1⟩) (meth := k13m1) (c := k13c1) (by decide +kernel) rfl rfl rfl (by decide +kernel)
set_option maxRecDepth 65536 in
theorem w_c21 : (Jvm.Cond.code ({ cls := "java/lang/Number", name := "<init>", desc := "()V" } : Jvm.MethodName) jdk_18_method_1_code (1 : Nat) (Option.none : Option Jvm.ClassFile.FieldType)).before args0 about1 = true := code_word (m := ⟨12, 0⟩) (meth := k12m0) (c := k12c0) (by decide +kernel) rfl rfl rfl (by decide +kernel)
set_option maxRecDepth 65536 in
theorem w_c22 : (Jvm.Cond.code ({ cls := "org/osgi/framework/VersionEqualsPinLaw", name := "sameQual", desc := "(II)Z" } : Jvm.MethodName) method_4_code (3 : Nat) (Option.some Jvm.ClassFile.FieldType.boolean)).before args0 about1 = true := code_word (m := ⟨1, 3⟩) (meth := k1m3) (c := k1c3) (by decide +kernel) rfl rfl rfl (by decide +kernel)
set_option maxRecDepth 65536 in
theorem w_c23 : (Jvm.Cond.code ({ cls := "java/lang/String", name := "equals", desc := "(Ljava/lang/Object;)Z" } : Jvm.MethodName) jdk_42_method_66_code (3 : Nat) (Option.some Jvm.ClassFile.FieldType.boolean)).before args0 about1 = true := code_word (m := ⟨7, 4⟩) (meth := k7m4) (c := k7c4) (by decide +kernel) rfl rfl rfl (by decide +kernel)
set_option maxRecDepth 65536 in
theorem w_c24 : (Jvm.Cond.code ({ cls := "java/lang/StringLatin1", name := "equals", desc := "([B[B)Z" } : Jvm.MethodName) jdk_43_method_13_code (3 : Nat) (Option.some Jvm.ClassFile.FieldType.boolean)).before args0 about1 = true := code_word (m := ⟨10, 2⟩) (meth := k10m2) (c := k10c2) (by decide +kernel) rfl rfl rfl (by decide +kernel)
def codes1 : List Jvm.Cond := [Jvm.Cond.code x code maxLocals ret, Jvm.Cond.code ({ cls := "org/osgi/framework/VersionEqualsPinLaw", name := "qual", desc := "(I)Ljava/lang/String;" } : Jvm.MethodName) method_3_code (5 : Nat) (Option.some (Jvm.ClassFile.FieldType.object "java/lang/String")), Jvm.Cond.code ({ cls := "org/osgi/framework/VersionEqualsPinLaw", name := "ch", desc := "(I)C" } : Jvm.MethodName) method_2_code (2 : Nat) (Option.some Jvm.ClassFile.FieldType.char), Jvm.Cond.code ({ cls := "java/lang/String", name := "<init>", desc := "([C)V" } : Jvm.MethodName) jdk_42_method_3_code (2 : Nat) (Option.none : Option Jvm.ClassFile.FieldType), Jvm.Cond.code ({ cls := "java/lang/String", name := "<init>", desc := "([CIILjava/lang/Void;)V" } : Jvm.MethodName) jdk_42_method_149_code (6 : Nat) (Option.none : Option Jvm.ClassFile.FieldType), Jvm.Cond.code ({ cls := "java/lang/Object", name := "<init>", desc := "()V" } : Jvm.MethodName) object_method_1_code (1 : Nat) (Option.none : Option Jvm.ClassFile.FieldType), Jvm.Cond.code ({ cls := "java/lang/StringUTF16", name := "compress", desc := "([CII)[B" } : Jvm.MethodName) jdk_52_method_16_code (6 : Nat) (Option.some (Jvm.ClassFile.FieldType.array Jvm.ClassFile.FieldType.byte)), Jvm.Cond.code ({ cls := "java/lang/StringUTF16", name := "compress", desc := "([CI[BII)I" } : Jvm.MethodName) jdk_52_method_21_code (7 : Nat) (Option.some Jvm.ClassFile.FieldType.int), Jvm.Cond.code ({ cls := "java/lang/StringUTF16", name := "coderFromArrayLen", desc := "([BI)B" } : Jvm.MethodName) jdk_52_method_15_code (2 : Nat) (Option.some Jvm.ClassFile.FieldType.byte), Jvm.Cond.code ({ cls := "org/osgi/framework/Version", name := "<init>", desc := "(IIILjava/lang/String;)V" } : Jvm.MethodName) prog_142_method_2_code (5 : Nat) (Option.none : Option Jvm.ClassFile.FieldType), Jvm.Cond.code ({ cls := "org/osgi/framework/Version", name := "validate", desc := "()V" } : Jvm.MethodName) prog_142_method_14_code (4 : Nat) (Option.none : Option Jvm.ClassFile.FieldType), Jvm.Cond.code ({ cls := "java/lang/String", name := "length", desc := "()I" } : Jvm.MethodName) jdk_42_method_54_code (1 : Nat) (Option.some Jvm.ClassFile.FieldType.int), Jvm.Cond.code ({ cls := "java/lang/String", name := "coder", desc := "()B" } : Jvm.MethodName) jdk_42_method_152_code (1 : Nat) (Option.some Jvm.ClassFile.FieldType.byte), Jvm.Cond.code ({ cls := "java/lang/String", name := "charAt", desc := "(I)C" } : Jvm.MethodName) jdk_42_method_56_code (2 : Nat) (Option.some Jvm.ClassFile.FieldType.char), Jvm.Cond.code ({ cls := "java/lang/String", name := "isLatin1", desc := "()Z" } : Jvm.MethodName) jdk_42_method_154_code (1 : Nat) (Option.some Jvm.ClassFile.FieldType.boolean), Jvm.Cond.code ({ cls := "java/lang/StringLatin1", name := "charAt", desc := "([BI)C" } : Jvm.MethodName) jdk_43_method_2_code (2 : Nat) (Option.some Jvm.ClassFile.FieldType.char), Jvm.Cond.code ({ cls := "java/lang/String", name := "checkIndex", desc := "(II)V" } : Jvm.MethodName) jdk_42_method_155_code (2 : Nat) (Option.none : Option Jvm.ClassFile.FieldType), Jvm.Cond.code ({ cls := "jdk/internal/util/Preconditions", name := "checkIndex", desc := "(IILjava/util/function/BiFunction;)I" } : Jvm.MethodName) jdk_41_method_11_code (3 : Nat) (Option.some Jvm.ClassFile.FieldType.int), Jvm.Cond.code ({ cls := "org/osgi/framework/Version", name := "equals", desc := "(Ljava/lang/Object;)Z" } : Jvm.MethodName) prog_142_method_11_code (3 : Nat) (Option.some Jvm.ClassFile.FieldType.boolean), Jvm.Cond.code ({ cls := "java/lang/Integer", name := "valueOf", desc := "(I)Ljava/lang/Integer;" } : Jvm.MethodName) jdk_33_method_22_code (1 : Nat) (Option.some (Jvm.ClassFile.FieldType.object "java/lang/Integer")), Jvm.Cond.code ({ cls := "java/lang/Integer", name := "<init>", desc := "(I)V" } : Jvm.MethodName) jdk_33_method_23_code (2 : Nat) (Option.none : Option Jvm.ClassFile.FieldType), Jvm.Cond.code ({ cls := "java/lang/Number", name := "<init>", desc := "()V" } : Jvm.MethodName) jdk_18_method_1_code (1 : Nat) (Option.none : Option Jvm.ClassFile.FieldType), Jvm.Cond.code ({ cls := "org/osgi/framework/VersionEqualsPinLaw", name := "sameQual", desc := "(II)Z" } : Jvm.MethodName) method_4_code (3 : Nat) (Option.some Jvm.ClassFile.FieldType.boolean), Jvm.Cond.code ({ cls := "java/lang/String", name := "equals", desc := "(Ljava/lang/Object;)Z" } : Jvm.MethodName) jdk_42_method_66_code (3 : Nat) (Option.some Jvm.ClassFile.FieldType.boolean), Jvm.Cond.code ({ cls := "java/lang/StringLatin1", name := "equals", desc := "([B[B)Z" } : Jvm.MethodName) jdk_43_method_13_code (3 : Nat) (Option.some Jvm.ClassFile.FieldType.boolean)]
set_option maxRecDepth 65536 in
theorem codes_eq : words1.filter isCode = codes1 := rfl
theorem w_codes : ∀ c ∈ words1.filter isCode, c.before args0 about1 = true := by
  rw [codes_eq]
  intro c hc
  simp only [codes1, List.mem_cons, List.not_mem_nil, or_false] at hc
  rcases hc with rfl | rfl | rfl | rfl | rfl | rfl | rfl | rfl | rfl | rfl | rfl | rfl | rfl | rfl | rfl | rfl | rfl | rfl | rfl | rfl | rfl | rfl | rfl | rfl | rfl
  · exact w_c0
  · exact w_c1
  · exact w_c2
  · exact w_c3
  · exact w_c4
  · exact w_c5
  · exact w_c6
  · exact w_c7
  · exact w_c8
  · exact w_c9
  · exact w_c10
  · exact w_c11
  · exact w_c12
  · exact w_c13
  · exact w_c14
  · exact w_c15
  · exact w_c16
  · exact w_c17
  · exact w_c18
  · exact w_c19
  · exact w_c20
  · exact w_c21
  · exact w_c22
  · exact w_c23
  · exact w_c24
set_option maxRecDepth 65536 in
theorem w_t1 : (words1.take 24).all (fun c => isCode c || c.before args0 about1) = true := by decide +kernel
set_option maxRecDepth 65536 in
theorem w_t2 : ((words1.drop 24).take 24).all (fun c => isCode c || c.before args0 about1) = true := by decide +kernel
set_option maxRecDepth 65536 in
theorem w_t3 : (((words1.drop 24).drop 24).take 24).all (fun c => isCode c || c.before args0 about1) = true := by decide +kernel
set_option maxRecDepth 65536 in
theorem w_t4 : ((((words1.drop 24).drop 24).drop 24).take 24).all (fun c => isCode c || c.before args0 about1) = true := by decide +kernel
set_option maxRecDepth 65536 in
theorem w_t5 : (((((words1.drop 24).drop 24).drop 24).drop 24).take 24).all (fun c => isCode c || c.before args0 about1) = true := by decide +kernel
set_option maxRecDepth 65536 in
theorem w_t6 : (((((words1.drop 24).drop 24).drop 24).drop 24).drop 24).all (fun c => isCode c || c.before args0 about1) = true := by decide +kernel
theorem w_tables : (allAtoms (Jvm.Cond.code x code maxLocals ret :: tables_1)).before args0 about1 = true := by
  rw [allAtoms_all]
  show words1.all (fun c => c.before args0 about1) = true
  refine all_split ?_ w_codes
  rw [← List.take_append_drop 24 words1, List.all_append, w_t1, ← List.take_append_drop 24 (words1.drop 24), List.all_append, w_t2, ← List.take_append_drop 24 ((words1.drop 24).drop 24), List.all_append, w_t3, ← List.take_append_drop 24 (((words1.drop 24).drop 24).drop 24), List.all_append, w_t4, ← List.take_append_drop 24 ((((words1.drop 24).drop 24).drop 24).drop 24), List.all_append, w_t5, w_t6]
  rfl
set_option maxRecDepth 65536 in
theorem w_rest : rest_1_c.before args0 about1 = true := by decide +kernel
set_option maxRecDepth 65536 in
theorem w_case : (Jvm.Cond.and given_1 narrow_1).before args0 about1 = true := by decide +kernel
set_option maxRecDepth 65536 in
theorem w_consts : constsHeld consts_1 about1 := Jvm.Lit.constsHeldB_iff.mp (by decide +kernel)
theorem w_applies : (headSpec (Jvm.Cond.code x code maxLocals ret :: tables_1) room_1).applies x e0.platform about1 = true :=
  (Spec.applies_iff w_frames).mpr ⟨w_running, w_runnable, w_alone, w_named, w_hears, w_ripe, w_room, w_tables⟩
theorem atStart : AtStart classFile x code maxLocals ret World_1 tables_1 room_1 Calls_1 rest_1 Pre_1 launch0 p0 e0 about1 theMethod args0 below0 :=
  ⟨lists_1, trivial, launch0.admits_env _ _ _, launch0.least_env, fairChoices_fair.cas, fairChoices_fair.clock, w_frames, w_args, w_heap, w_applies, ⟨w_consts, trivial⟩, w_rest, w_case⟩
end start1
theorem witness_1 : WitnessClaimed_1 := ⟨start1.p0, start1.e0, start1.about1, start1.theMethod, start1.args0, start1.below0, start1.atStart⟩
end Jvm.Pilot.@@N@@
