import JvmDerived
import JvmDerived.Pilot.@@N@@Statement
import JvmDerived.Pilot.@@N@@Code
set_option linter.unusedVariables false
set_option linter.unusedSimpArgs false
namespace Jvm.OwnK
open Sem ClassFile Op Lib Bundle Jvm.Stand Jvm.Free Jvm.LawKit Jvm.RoadKit
/-! A small calculus of runs over the library's Stand, own text. Run: from any state that stands with heap h at pc, locals L, stack S, the run ends well. -/
abbrev Kx : Type := Program × Launch × Env × Room × State × MethodId × Array Value × List Frame × Method × Code
abbrev Kx.p (K : Kx) : Program := K.1
abbrev Kx.l (K : Kx) : Launch := K.2.1
abbrev Kx.e (K : Kx) : Env := K.2.2.1
abbrev Kx.R (K : Kx) : Room := K.2.2.2.1
abbrev Kx.s (K : Kx) : State := K.2.2.2.2.1
abbrev Kx.m (K : Kx) : MethodId := K.2.2.2.2.2.1
abbrev Kx.as (K : Kx) : Array Value := K.2.2.2.2.2.2.1
abbrev Kx.bl (K : Kx) : List Frame := K.2.2.2.2.2.2.2.1
abbrev Kx.me (K : Kx) : Method := K.2.2.2.2.2.2.2.2.1
abbrev Kx.c (K : Kx) : Code := K.2.2.2.2.2.2.2.2.2
/-- the walk stands at T, its heap h, cl cells and sl slots made; W: places that no booked constant holds -/
def St (Z : State) (EL : List (String × Nat)) (nI : Bool) (K : Kx) (W : List Addr) (h : Heap) (cl sl : Nat) (T : State) : Prop :=
  ∃ (vm0 : Vm) (k0 : Nat) (locs : List Loc), Stand K.p K.l K.e K.R (K.s.setVm vm0) K.m K.as K.bl K.me K.c T locs cl sl ∧ K.s.Since vm0 k0 ∧ k0 ≤ h.size ∧ Z.Warmed39 vm0 ∧ CHr Z EL K.s.vm K.s.heap vm0 h ∧ (∀ x ∈ W, x < h.size ∧ Safe Z EL vm0 h x) ∧ T.heap = h ∧ Fr Z.heap.size locs ∧ (nI = true → K.s.WarmedH vm0) ∧ Ext Z.heap h
def Go (Z : State) (EL : List (String × Nat)) (nI : Bool) (K : Kx) (Q : Option Value → Heap → Prop) (T : State) (g : JFrame) : Prop :=
  ∃ s₂ v L, Steps K.p.tables K.e K.bl (T.setTop g) s₂ ∧ s₂.status = .running ∧ Ended s₂ K.bl (.returned v) ∧ Q v s₂.heap ∧ Fr Z.heap.size L ∧ CHr Z EL K.s.vm K.s.heap s₂.vm s₂.heap ∧ ReturnedEndW K.s (.returned v) s₂ L K.R.cells K.R.slots ∧ (nI = true → K.s.WarmedH s₂.vm) ∧ Ext Z.heap s₂.heap
def Run (Z : State) (EL : List (String × Nat)) (nI : Bool) (K : Kx) (Q : Option Value → Heap → Prop) (W : List Addr) (h : Heap) (cl sl pc : Nat) (L : Array Slot) (S : List Value) : Prop :=
  ∀ T, St Z EL nI K W h cl sl T → Go Z EL nI K Q T (mkF K.m pc L S)
/-- what is known of the invocation -/
def Ok (Z : State) (EL : List (String × Nat)) (a0 : Array Value) (l : Launch) (own nm : String) (bytes : ByteArray) (ml : Nat) (ret : Option FieldType) (R : Room) (K : Kx) : Prop :=
  K.p.tables.exec = Jvm.exec ∧ K.l = l ∧ K.R = R ∧ K.c.code = bytes ∧ K.c.maxLocals = ml ∧ K.me.sig.returnType = ret ∧ K.me.locks = false ∧ K.me.name = nm ∧ K.s.vm.findClass own = some K.m.cls ∧ EW Z a0 EL
/-- a place that a walk may write -/
def Sf (Z : State) (EL : List (String × Nat)) (W : List Addr) (h : Heap) (a : Addr) : Prop := ∀ vm, Z.Warmed39 vm → (∀ x ∈ W, x < h.size ∧ Safe Z EL vm h x) → Safe Z EL vm h a
section Rules
variable {Z : State} {EL : List (String × Nat)} {nI : Bool} {a0 : Array Value} {l : Launch} {own nm : String} {bytes : ByteArray} {ml : Nat} {ret : Option FieldType} {R : Room} {K : Kx} {Q : Option Value → Heap → Prop} {W W' : List Addr} {h : Heap} {cl sl cl' sl' pc pc' : Nat} {L L' : Array Slot} {S S' : List Value} {a : Addr} {C : String} {ty : FieldType}
theorem sfW (hm : a ∈ W) : Sf Z EL W h a := fun _ _ q => (q a hm).2
theorem sfE (E : Exa Z h a C) (h1 : C ≠ "java/lang/String") (h2 : C ≠ "[B") : Sf Z EL W h a := fun _ hZ _ => Safe.exa hZ.alike E h1 h2
theorem sfA {k : ClassId} {z : Int32} {vs : List Value} {dv : Value} (A : Arv Z h a k ty z vs dv) (ht : ty ≠ .byte) : Sf Z EL W h a := fun _ hZ _ => Safe.arv hZ.alike A ht
theorem sfR {c : Cell} (A : Arr Z h a c ty) (ht : ty ≠ .byte) : Sf Z EL W h a := fun _ hZ _ => Safe.arr hZ.alike A ht
theorem sfN : Sf Z [] W h a := fun _ _ _ B => by obtain ⟨p, hp, -⟩ := B; cases hp
/-- fewer places -/
theorem Run.less (k : Run Z EL nI K Q W' h cl sl pc L S) (hs : ∀ x ∈ W', x ∈ W) : Run Z EL nI K Q W h cl sl pc L S := fun T X => by
  obtain ⟨vm0, k0, locs, X1, X2, X3, X4, X5, X6, X7⟩ := X
  exact k T ⟨vm0, k0, locs, X1, X2, X3, X4, X5, fun x hx => X6 x (hs x hx), X7⟩
/-- more room -/
theorem Run.mono (k : Run Z EL nI K Q W h cl' sl' pc L S) (h1 : cl ≤ cl') (h2 : sl ≤ sl') : Run Z EL nI K Q W h cl sl pc L S := fun T X => by
  obtain ⟨vm0, k0, locs, X1, X7⟩ := X
  exact k T ⟨vm0, k0, locs, X1.mono h1 h2, X7⟩
/-- nothing that stood at the start was written -/
theorem Run.old (k : Ext Z.heap h → Run Z EL nI K Q W h cl sl pc L S) : Run Z EL nI K Q W h cl sl pc L S := fun T X => by
  obtain ⟨vm0, k0, locs, X1, X2, X3, X4, X5, X6, X7, X8, X9, X10⟩ := id X
  exact k X10 T X
/-- a step that leaves the heap -/
theorem Run.same (hK : Ok Z EL a0 l own nm bytes ml ret R K)
    (f : ∀ T vm0 locs, Stand K.p K.l K.e K.R (K.s.setVm vm0) K.m K.as K.bl K.me K.c T locs cl sl → Z.Warmed39 (K.s.setVm vm0).vm → (K.s.setVm vm0).vm.findClass own = some K.m.cls → T.heap = h →
      ∃ T', Stand K.p K.l K.e K.R (K.s.setVm vm0) K.m K.as K.bl K.me K.c T' locs cl sl ∧ T'.heap = h ∧ ∀ t, Steps K.p.tables K.e K.bl (T'.setTop (mkF K.m pc' L' S')) t → Steps K.p.tables K.e K.bl (T.setTop (mkF K.m pc L S)) t)
    (k : Run Z EL nI K Q W h cl sl pc' L' S') : Run Z EL nI K Q W h cl sl pc L S := fun T X => by
  obtain ⟨vm0, k0, locs, X1, X2, X3, X4, X5, X6, X7, X8⟩ := X
  obtain ⟨T', Y, eY, st⟩ := f T vm0 locs X1 X4 (by rw [show (K.s.setVm vm0).vm = vm0 from rfl, X2.1.alike.findClass]; exact hK.2.2.2.2.2.2.2.2.1) X7
  obtain ⟨s2, v, Lo, g, r⟩ := k T' ⟨vm0, k0, locs, Y, X2, X3, X4, X5, X6, eY, X8⟩
  exact ⟨s2, v, Lo, st _ g, r⟩
/-- a step that moves frames alone -/
theorem Run.step (hK : Ok Z EL a0 l own nm bytes ml ret R K)
    (f : ∀ T, At T K.m K.c K.bl → ∀ t, Steps K.p.tables K.e K.bl (T.setTop (mkF K.m pc' L' S')) t → Steps K.p.tables K.e K.bl (T.setTop (mkF K.m pc L S)) t)
    (k : Run Z EL nI K Q W h cl sl pc' L' S') : Run Z EL nI K Q W h cl sl pc L S :=
  Run.same hK (fun T vm0 locs X _ _ e => ⟨T, X, e, f T X.here⟩) k
/-- a step that makes cells -/
theorem Run.grow (hK : Ok Z EL a0 l own nm bytes ml ret R K) {P : Heap → Prop}
    (f : ∀ T vm0 locs, Stand K.p K.l K.e K.R (K.s.setVm vm0) K.m K.as K.bl K.me K.c T locs cl sl → Z.Warmed39 (K.s.setVm vm0).vm → (K.s.setVm vm0).vm.findClass own = some K.m.cls → T.heap = h →
      ∃ T' h', Stand K.p K.l K.e K.R (K.s.setVm vm0) K.m K.as K.bl K.me K.c T' locs cl' sl' ∧ T'.heap = h' ∧ Ext h h' ∧ h.size < h'.size ∧ P h' ∧ ∀ t, Steps K.p.tables K.e K.bl (T'.setTop (mkF K.m pc' L' S')) t → Steps K.p.tables K.e K.bl (T.setTop (mkF K.m pc L S)) t)
    (k : ∀ h', Ext h h' → P h' → Run Z EL nI K Q (h.size :: W) h' cl' sl' pc' L' S') : Run Z EL nI K Q W h cl sl pc L S := fun T X => by
  obtain ⟨vm0, k0, locs, X1, X2, X3, X4, X5, X6, X7, X8, X9, X10⟩ := X
  obtain ⟨T', h', Y, eY, E, hsz, hP, st⟩ := f T vm0 locs X1 X4 (by rw [show (K.s.setVm vm0).vm = vm0 from rfl, X2.1.alike.findClass]; exact hK.2.2.2.2.2.2.2.2.1) X7
  obtain ⟨s2, v, Lo, g, r⟩ := k h' E hP T' ⟨vm0, k0, locs, Y, X2, Nat.le_trans X3 E.1, X4, X5.trans (CHr.ext E X5.1), fun x hx => by
    rcases List.mem_cons.mp hx with rfl | hx
    · exact ⟨hsz, Safe.ext E X5.1 (Safe.new (Nat.le_refl _))⟩
    · exact ⟨Nat.lt_of_lt_of_le (X6 x hx).1 E.1, Safe.ext E X5.1 (X6 x hx).2⟩, eY, X8, X9, Nat.le_trans X10.1 E.1, fun x c q => E.2 x c (X10.2 x c q)⟩
  exact ⟨s2, v, Lo, st _ g, r⟩
/-- a step that writes one place -/
theorem Run.write (hK : Ok Z EL a0 l own nm bytes ml ret R K) {i : Nat} {w : Value} (ha : Z.heap.size ≤ a) (hs : Sf Z EL W h a)
    (f : ∀ T vm0 locs, Stand K.p K.l K.e K.R (K.s.setVm vm0) K.m K.as K.bl K.me K.c T locs cl sl → Z.Warmed39 (K.s.setVm vm0).vm → (K.s.setVm vm0).vm.findClass own = some K.m.cls → T.heap = h →
      ∃ T' h', Stand K.p K.l K.e K.R (K.s.setVm vm0) K.m K.as K.bl K.me K.c T' (locs ++ [⟨a, i⟩]) cl sl ∧ T'.heap = h' ∧ Wr h h' a i w ∧ ∀ t, Steps K.p.tables K.e K.bl (T'.setTop (mkF K.m pc' L' S')) t → Steps K.p.tables K.e K.bl (T.setTop (mkF K.m pc L S)) t)
    (k : ∀ h', Wr h h' a i w → Run Z EL nI K Q W h' cl sl pc' L' S') : Run Z EL nI K Q W h cl sl pc L S := fun T X => by
  obtain ⟨vm0, k0, locs, X1, X2, X3, X4, X5, X6, X7, X8, X9, X10⟩ := X
  obtain ⟨T', h', Y, eY, Wt, st⟩ := f T vm0 locs X1 X4 (by rw [show (K.s.setVm vm0).vm = vm0 from rfl, X2.1.alike.findClass]; exact hK.2.2.2.2.2.2.2.2.1) X7
  have hsz := Wt.size
  have sa := hs vm0 X4 X6
  obtain ⟨s2, v, Lo, g, r⟩ := k h' Wt T' ⟨vm0, k0, _, Y, X2, hsz ▸ X3, X4, X5.trans (CHr.wr Wt sa X5.1), fun x hx => ⟨hsz ▸ (X6 x hx).1, Safe.wr Wt sa X5.1 (X6 x hx).2⟩, eY, Fr.snoc Y X8 ha, X9, (Old.wr (Z := Z) (n0 := Z.heap.size) ⟨rfl, X10⟩ Wt ha).2⟩
  exact ⟨s2, v, Lo, st _ g, r⟩
end Rules
/-- **A CALLEE, PAID**: whatever pays it -/
def Cal (Z : State) (EL : List (String × Nat)) (nI : Bool) (a0 : Array Value) (l : Launch) (R : Room) (y : MethodName) (len Wt : Nat) (as' : Array Value) (h : Heap) (W : List Addr) (kc ks : Nat) (Qy : Option Value → Heap → Prop) : Prop :=
  ∀ (p : Program) (e : Env) (bl : List Frame) (s : State) (as : Array Value) (vm0 : Vm), Z.Warmed39 vm0 → EW Z a0 EL → CHv Z EL vm0 h → (∀ x ∈ W, x < h.size ∧ Safe Z EL vm0 h x) → Ext Z.heap h →
    BackS l R p e bl (s.setVm vm0) as y len Wt (fun A a => a = as' ∧ A.U.heap = h ∧ A.cells + kc ≤ R.cells ∧ A.slots + ks ≤ R.slots)
      (fun A _ v B => ∃ Lo, Qy v B.U.heap ∧ Fr Z.heap.size Lo ∧ B.locs = A.locs ++ Lo ∧ B.cells = A.cells + kc ∧ B.slots = A.slots + ks ∧ CHr Z EL vm0 h B.U.vm B.U.heap ∧ (nI = true → (s.setVm vm0).WarmedH B.U.vm) ∧ Ext Z.heap B.U.heap)
/-- an own contract -/
def Ctr (Z : State) (EL : List (String × Nat)) (nI : Bool) (l : Launch) (ws : List Jvm.Cond) (y : MethodName) (bytes : ByteArray) (ml : Nat) (ret : Option FieldType) (rm : Room) (as' : Array Value) (h : Heap) (W : List Addr) (Qy : Option Value → Heap → Prop) : Prop :=
  MetFree l y (head1 (Jvm.Cond.code y bytes ml ret :: ws) rm) (fun a U => a = as' ∧ Z.Warmed39 U.vm ∧ U.heap = h ∧ CHv Z EL U.vm h ∧ (∀ x ∈ W, x < h.size ∧ Safe Z EL U.vm h x) ∧ Ext Z.heap h) (fun _ _ _ _ _ => True)
    (fun _ U o U' => ∃ v Lo, o = .returned v ∧ Qy v U'.heap ∧ Fr Z.heap.size Lo ∧ CHr Z EL U.vm U.heap U'.vm U'.heap ∧ ReturnedEndW U o U' Lo rm.cells rm.slots ∧ (nI = true → U.WarmedH U'.vm) ∧ Ext Z.heap U'.heap)
section Calls
variable {Z : State} {EL : List (String × Nat)} {nI : Bool} {a0 : Array Value} {l : Launch} {own nm : String} {bytes : ByteArray} {ml : Nat} {ret : Option FieldType} {R rm : Room} {K : Kx} {Q Qy : Option Value → Heap → Prop} {W W' : List Addr} {h : Heap} {cl sl pc len Wt kc ks : Nat} {L : Array Slot} {S rest argsL : List Value} {y z : MethodName} {as' : Array Value} {index : Nat}
theorem Ctr.of_run {L0 : Array Slot} {ws : List Jvm.Cond} (hpl : plainFor y = true) (hEL : EW Z a0 EL) (hent : argsToLocals as' ml = L0)
    (body : ∀ K, Ok Z EL a0 l y.cls y.name bytes ml ret rm K → Run Z EL nI K Qy W h 0 0 0 L0 []) : Ctr Z EL nI l ws y bytes ml ret rm as' h W Qy := by
  refine MetFree.of_bodySF (code := bytes) (maxLocals := ml) (ret := ret) hpl hisR ?_
  intro p e s m args below meth c s₁ Bd hml hP hK
  obtain ⟨rfl, hZ, hh, hC, hS, hO⟩ := hP
  subst hent
  have e0 : s₁.heap = h := by rw [← hh, Bd.state]; rfl
  obtain ⟨s2, v, Lo, g1, g2, g3, g4, g5, g6, g7, g8⟩ := body (p, l, e, rm, s, m, args, below, meth, c) ⟨Bd.exec, rfl, rfl, Bd.bytes, hml, Bd.returns, Bd.notSynchronized, (name_of_methodNamed Bd.named Bd.method).1, findClass_of_methodNamed Bd.named, hEL⟩ s₁
    ⟨s.vm, 0, [], Stand.of_body Bd, (State.WarmedH.refl s).since 0, Nat.zero_le _, hZ, by subst hh; exact CHr.refl hC, hS, e0, Fr.nil _, fun _ => State.WarmedH.refl s, hO⟩
  exact ⟨s2, _, g1, g2, g3, v, Lo, rfl, g4, g5, g6, g7, g8⟩
theorem Ctr.cal (hC : Ctr Z EL nI l [] y bytes ml ret rm as' h W Qy) (wc : (Jvm.Cond.code y bytes ml ret).before a0 Z = true) (wz : (Jvm.Cond.initialized y.cls).before a0 Z = true) (hf : rm.frames + 1 ≤ R.frames) (hl : Wt + (ml + 11) + rm.locals ≤ R.locals) :
    Cal Z EL nI a0 l R y len Wt as' h W rm.cells rm.slots Qy := fun p e bl s as vm0 hZ hEL H hS hO =>
  BackS.of_freeW (bytes := bytes) (maxL := ml) (ret := ret) (E := fun _ first o t Lo k n => k = rm.cells ∧ n = rm.slots ∧ (∃ v, o = .returned v ∧ Qy v t.heap) ∧ Fr Z.heap.size Lo ∧ CHr Z EL first.vm first.heap t.vm t.heap ∧ (nI = true → first.WarmedH t.vm) ∧ Ext Z.heap t.heap) hC hf hl
    (fun m meth c A a Y hp => have hU : Z.Warmed39 A.U.vm := wtrans (s := s.setVm vm0) hZ Y.warmed
      ⟨by show (Cond.and _ .tt).before a A.U = true; rw [Cond.before_and, mv hU wc]; rfl, mv hU wc, mv hU wz, hp.2.2.1, hp.2.2.2⟩)
    (fun m meth c A a g mk Y hp => have B := CHv.at Y hZ hEL H; ⟨hp.1, wtrans (s := s.setVm vm0) hZ Y.warmed, hp.2.1, B.1, fun x hx => ⟨(hS x hx).1, B.safe (hS x hx).1 (hS x hx).2⟩, hO⟩) (fun _ _ _ _ _ _ _ _ _ => trivial)
    (fun _ _ _ _ ⟨v, Lo, h1, h2, h3, h4, h5, h6⟩ => ⟨Lo, _, _, h5, rfl, rfl, ⟨v, h1, h2⟩, h3, h4, h6⟩)
    (fun m meth c A a g mk v t Lo k n Y hp _ _ ⟨e1, e2, ⟨v', e3, e4⟩, e5, e6, e7, e8⟩ => by
      cases e3; subst e1 e2
      refine ⟨Lo, e4, e5, rfl, rfl, rfl, (CHv.at Y hZ hEL H).trans ?_, fun q => State.WarmedH.trans Y.warmed (e7 q), e8⟩
      rw [← hp.2.1]; exact e6)
/-- a law of the library's or of a paste, that interns nothing -/
theorem Cal.of_back {Qz : Option Value → Heap → List Loc → Prop}
    (hB : ∀ (p : Program) (e : Env) (bl : List Frame) (s : State) (as : Array Value), Z.Warmed39 s.vm → Ext Z.heap h → Back l R p e bl s as y len Wt (fun A a => a = as' ∧ A.U.heap = h ∧ A.cells + kc ≤ R.cells ∧ A.slots + ks ≤ R.slots) (fun A _ v B => ∃ Lo, Qz v B.U.heap Lo ∧ B.locs = A.locs ++ Lo ∧ B.cells = A.cells + kc ∧ B.slots = A.slots + ks))
    (hQ : ∀ v h' Lo, Qz v h' Lo → Qy v h' ∧ Fr Z.heap.size Lo ∧ ∃ ws, Keep h h' ws ∧ ∀ x ∈ ws, Z.heap.size ≤ x ∧ Sf Z EL W h x) : Cal Z EL nI a0 l R y len Wt as' h W kc ks Qy := fun p e bl s as vm0 hZ hEL H hS hO => by
  intro m meth c A g ig mk a X hg hsize hdg hW hn hp
  obtain ⟨v, B, X', ⟨Lo, hq, e1, e2, e3⟩, hsteps⟩ := hB p e bl (s.setVm vm0) as hZ hO m meth c A g ig mk a X hg hsize hdg hW hn hp
  obtain ⟨q1, q2, ws, q3, q4⟩ := hQ _ _ _ hq
  have hs : ∀ x ∈ ws, Safe Z EL vm0 h x := fun x hx => (q4 x hx).2 vm0 hZ hS
  exact ⟨v, B, X'.retabled X'.warmed.wide, X'.warmed.since _, by rw [hp.2.1]; exact q3.1, ⟨Lo, q1, q2, e1, e2, e3, (CHr.keep q3 hs H).trans (CHv.at X' hZ hEL (H.keep q3 hs)), fun _ => X'.warmed, (Old.keep (Z := Z) (n0 := Z.heap.size) ⟨rfl, hO⟩ q3 (fun x hx => (q4 x hx).1)).2⟩, hsteps⟩
theorem Cal.more {kc' ks' : Nat} (hC : Cal Z EL nI a0 l R y len Wt as' h W kc ks Qy) (h1 : kc ≤ kc') (h2 : ks ≤ ks') : Cal Z EL nI a0 l R y len Wt as' h W kc' ks' Qy := fun p e bl s as vm0 hZ hEL H hS hO => by
  intro m meth c A g ig mk a X hg hsize hdg hW hn hp
  obtain ⟨v, B, X', q1, q2, ⟨Lo, r1, r2, r3, r4, r5, r6⟩, st⟩ := hC p e bl s as vm0 hZ hEL H hS hO m meth c A g ig mk a X hg hsize hdg hW hn ⟨hp.1, hp.2.1, by have := hp.2.2.1; omega, by have := hp.2.2.2; omega⟩
  exact ⟨v, ⟨B.U, B.locs, A.cells + kc', A.slots + ks'⟩, X'.mono (by show B.cells ≤ A.cells + kc'; rw [r4]; omega) (by show B.slots ≤ A.slots + ks'; rw [r5]; omega), q1, q2, ⟨Lo, r1, r2, r3, rfl, rfl, r6⟩, st⟩
theorem Cal.conseq {Qz : Option Value → Heap → Prop} (hC : Cal Z EL nI a0 l R y len Wt as' h W' kc ks Qy) (hs : ∀ x ∈ W', x ∈ W) (hq : ∀ v h', Qy v h' → Qz v h') : Cal Z EL nI a0 l R y len Wt as' h W kc ks Qz := fun p e bl s as vm0 hZ hEL H hS hO => by
  intro m meth c A g ig mk a X hg hsize hdg hW hn hp
  obtain ⟨v, B, X', q1, q2, ⟨Lo, r1, r⟩, st⟩ := hC p e bl s as vm0 hZ hEL H (fun x hx => hS x (hs x hx)) hO m meth c A g ig mk a X hg hsize hdg hW hn hp
  exact ⟨v, B, X', q1, q2, ⟨Lo, hq _ _ r1, r⟩, st⟩
/-- behind a call: the walk stands again -/
theorem St.back (hK : Ok Z EL a0 l own nm bytes ml ret R K) {vm0 : Vm} {k0 : Nat} {locs : List Loc} {v : Option Value} {B : Pt} (X2 : K.s.Since vm0 k0) (X3 : k0 ≤ h.size) (X4 : Z.Warmed39 vm0) (X5 : CHr Z EL K.s.vm K.s.heap vm0 h) (X6 : ∀ x ∈ W, x < h.size ∧ Safe Z EL vm0 h x) (X8 : Fr Z.heap.size locs) (X9 : nI = true → K.s.WarmedH vm0)
    (Y : Stand K.p K.l K.e K.R ((K.s.setVm vm0).setVm B.U.vm) K.m K.as K.bl K.me K.c B.U B.locs B.cells B.slots) (hS : (K.s.setVm vm0).Since B.U.vm B.U.heap.size) (hg : h.size ≤ B.U.heap.size)
    (hp : ∃ Lo, Qy v B.U.heap ∧ Fr Z.heap.size Lo ∧ B.locs = locs ++ Lo ∧ B.cells = cl + kc ∧ B.slots = sl + ks ∧ CHr Z EL vm0 h B.U.vm B.U.heap ∧ (nI = true → (K.s.setVm vm0).WarmedH B.U.vm) ∧ Ext Z.heap B.U.heap) :
    Qy v B.U.heap ∧ St Z EL nI K W B.U.heap (cl + kc) (sl + ks) B.U := by
  obtain ⟨Lo, h1, h2, h3, h4, h5, h6, h7, h8⟩ := hp
  rw [h3, h4, h5] at Y
  exact ⟨h1, B.U.vm, B.U.heap.size, _, Y, X2.trans hS (Nat.le_trans X3 hg), Nat.le_refl _, State.Warmed39.trans (t := K.s.setVm vm0) X4 hS.1, X5.trans h6, fun x hx => ⟨Nat.lt_of_lt_of_le (X6 x hx).1 hg, h6.safe (X6 x hx).1 (X6 x hx).2⟩, rfl, X8.app h2, fun q => State.WarmedH.trans (X9 q) (h7 q), h8⟩
theorem Ok.fc (hK : Ok Z EL a0 l own nm bytes ml ret R K) {vm0 : Vm} {k0 : Nat} (X2 : K.s.Since vm0 k0) : (K.s.setVm vm0).vm.findClass own = some K.m.cls := by rw [show (K.s.setVm vm0).vm = vm0 from rfl, X2.1.alike.findClass]; exact hK.2.2.2.2.2.2.2.2.1
/-- invokestatic -/
theorem Run.static (hK : Ok Z EL a0 l own nm bytes ml ret R K) {by' : ByteArray} {ml' : Nat} {ret' : Option FieldType} (w1 : (Jvm.Cond.methodLink own index y).before a0 Z = true) (w2 : (Jvm.Cond.static y).before a0 Z = true) (w3 : (Jvm.Cond.initialized y.cls).before a0 Z = true) (w4 : (Jvm.Cond.code y by' ml' ret').before a0 Z = true)
    (hy : y.cls ≠ "java/lang/invoke/MethodHandle" ∧ y.cls ≠ "java/lang/invoke/VarHandle") (hsub : ∀ x ∈ W', x ∈ W) (hC : Cal Z EL nI a0 l R y 3 Wt argsL.toArray h W' kc ks Qy) (hsz : L.size = ml)
    (hlen : ∀ sig, parseMethodDescriptor y.desc = some sig → argsL.length = sig.parameters.length) (hst : S = argsL.reverse ++ rest) (hW : (rest.map fun v => v.category).sum ≤ Wt) (hd : decode bytes pc = .ok (.invokestatic index, 3)) (hc : cl + kc ≤ R.cells) (hs : sl + ks ≤ R.slots)
    (k : ∀ v h', Qy v h' → h.size ≤ h'.size → Run Z EL nI K Q W h' (cl + kc) (sl + ks) (pc + 3) L (v.toList ++ rest)) : Run Z EL nI K Q W h cl sl pc L S := fun T X => by
  obtain ⟨vm0, k0, locs, X1, X2, X3, X4, X5, X6, X7, X8, X9, X10⟩ := X
  have hown := hK.fc X2
  obtain ⟨hx, rfl, rfl, rfl, rfl, -, -, -, -, hEL⟩ := id hK
  have hZ : Z.Warmed39 (K.s.setVm vm0).vm := X4
  subst hst
  obtain ⟨v, vm1, B, -, Y, hS, hg, hp, st⟩ := callSS X1 hx (y := y) hown (mvT hZ w1) (mvT hZ w2) (mvT hZ w3) (mvT hZ w4) hy (hC K.p K.e K.bl K.s K.as vm0 X4 hEL X5.1 (fun x hx => X6 x (hsub x hx)) X10) (g := mkF K.m pc L (argsL.reverse ++ rest)) rfl hsz (argsL := argsL) (rest := rest) hlen rfl (by show 2 * 0 + _ ≤ _; omega) hd (fun _ _ => ⟨rfl, X7, hc, hs⟩)
  rw [X7] at hg
  obtain ⟨hq, Y'⟩ := St.back hK X2 X3 X4 X5 X6 X8 X9 Y hS hg hp
  obtain ⟨s2, v', Lo, g, r⟩ := k v _ hq hg B.U Y'
  exact ⟨s2, v', Lo, st.trans g, r⟩
/-- invokespecial of a constructor -/
theorem Run.special (hK : Ok Z EL a0 l own nm bytes ml ret R K) {by' : ByteArray} {ml' : Nat} (hy1 : y.name = "<init>") (w1 : (Jvm.Cond.methodLink own index y).before a0 Z = true) (w2 : (Jvm.Cond.instanceMethod y).before a0 Z = true) (w4 : (Jvm.Cond.code y by' ml' none).before a0 Z = true)
    (hy : y.cls ≠ "java/lang/invoke/MethodHandle" ∧ y.cls ≠ "java/lang/invoke/VarHandle") {a : Addr} (hsub : ∀ x ∈ W', x ∈ W) (hC : Cal Z EL nI a0 l R y 3 Wt (.ref a :: argsL).toArray h W' kc ks Qy) (hsz : L.size = ml)
    (hlen : ∀ sig, parseMethodDescriptor y.desc = some sig → argsL.length = sig.parameters.length) (hst : S = argsL.reverse ++ .ref a :: rest) (hW : (rest.map fun v => v.category).sum ≤ Wt) (hd : decode bytes pc = .ok (.invokespecial index, 3)) (hc : cl + kc ≤ R.cells) (hs : sl + ks ≤ R.slots)
    (k : ∀ v h', Qy v h' → h.size ≤ h'.size → Run Z EL nI K Q W h' (cl + kc) (sl + ks) (pc + 3) L (v.toList ++ rest)) : Run Z EL nI K Q W h cl sl pc L S := fun T X => by
  obtain ⟨vm0, k0, locs, X1, X2, X3, X4, X5, X6, X7, X8, X9, X10⟩ := X
  have hown := hK.fc X2
  obtain ⟨hx, rfl, rfl, rfl, rfl, -, -, -, -, hEL⟩ := id hK
  have hZ : Z.Warmed39 (K.s.setVm vm0).vm := X4
  subst hst
  obtain ⟨v, vm1, B, -, Y, hS, hg, hp, st⟩ := X1.specialBackS hx (y := y) hy1 hown (mvT hZ w1) (mvT hZ w2) (mvT hZ w4) hy (hC K.p K.e K.bl K.s K.as vm0 X4 hEL X5.1 (fun x hx => X6 x (hsub x hx)) X10) (g := mkF K.m pc L (argsL.reverse ++ .ref a :: rest)) rfl hsz (Steps.refl _) (a := a) (argsL := argsL) (rest := rest) hlen rfl (by show 2 * 0 + _ ≤ _; omega) hd (fun _ _ => ⟨rfl, X7, hc, hs⟩)
  rw [X7] at hg
  obtain ⟨hq, Y'⟩ := St.back hK X2 X3 X4 X5 X6 X8 X9 Y hS hg hp
  obtain ⟨s2, v', Lo, g, r⟩ := k v _ hq hg B.U Y'
  exact ⟨s2, v', Lo, st.trans g, r⟩
/-- invokevirtual, the object exactly of class C -/
theorem Run.virtual (hK : Ok Z EL a0 l own nm bytes ml ret R K) {C : String} (w1 : (Jvm.Cond.methodLink own index y).before a0 Z = true) (w2 : (Jvm.Cond.declares y).before a0 Z = true) (hnf : ∀ s : State, Z.Warmed39 s.vm → NotFace s y) (w3 : (Jvm.Cond.selects C y z).before a0 Z = true) (w4 : (Jvm.Cond.instanceMethod z).before a0 Z = true)
    (hy : y.cls ≠ "java/lang/invoke/MethodHandle" ∧ y.cls ≠ "java/lang/invoke/VarHandle") {a : Addr} (E : Exa Z h a C) (hsub : ∀ x ∈ W', x ∈ W) (hC : Cal Z EL nI a0 l R z 3 Wt (.ref a :: argsL).toArray h W' kc ks Qy) (hsz : L.size = ml)
    (hlen : ∀ sig, parseMethodDescriptor y.desc = some sig → argsL.length = sig.parameters.length) (hst : S = argsL.reverse ++ .ref a :: rest) (hW : (rest.map fun v => v.category).sum ≤ Wt) (hd : decode bytes pc = .ok (.invokevirtual index, 3)) (hc : cl + kc ≤ R.cells) (hs : sl + ks ≤ R.slots)
    (k : ∀ v h', Qy v h' → h.size ≤ h'.size → Run Z EL nI K Q W h' (cl + kc) (sl + ks) (pc + 3) L (v.toList ++ rest)) : Run Z EL nI K Q W h cl sl pc L S := fun T X => by
  obtain ⟨vm0, k0, locs, X1, X2, X3, X4, X5, X6, X7, X8, X9, X10⟩ := X
  have hown := hK.fc X2
  obtain ⟨hx, rfl, rfl, rfl, rfl, -, -, -, -, hEL⟩ := id hK
  have hZ : Z.Warmed39 (K.s.setVm vm0).vm := X4
  subst hst
  obtain ⟨cq, kq, qa, qb, qc⟩ := isOf hZ X7 E
  obtain ⟨v, vm1, B, -, Y, hS, hg, hp, st⟩ := X1.virtualBackS hx (y := y) (z := z) hown (mvT hZ w1) (mvT hZ w2) (hnf _ hZ) (mvT hZ w3) (mvT hZ w4) hy (hC K.p K.e K.bl K.s K.as vm0 X4 hEL X5.1 (fun x hx => X6 x (hsub x hx)) X10) qa qc (g := mkF K.m pc L (argsL.reverse ++ .ref a :: rest)) rfl hsz (Steps.refl _) (argsL := argsL) (rest := rest) hlen rfl (by show 2 * 0 + _ ≤ _; omega) hd (fun _ _ => ⟨rfl, X7, hc, hs⟩)
  rw [X7] at hg
  obtain ⟨hq, Y'⟩ := St.back hK X2 X3 X4 X5 X6 X8 X9 Y hS hg hp
  obtain ⟨s2, v', Lo, g, r⟩ := k v _ hq hg B.U Y'
  exact ⟨s2, v', Lo, st.trans g, r⟩
theorem nfS {C : String} (w3 : (Jvm.Cond.selects C y y).before a0 Z = true) : ∀ s : State, Z.Warmed39 s.vm → NotFace s y := fun s hZ => notFace_of_selects (args := #[]) (mvT hZ w3)
end Calls
section Single
variable {Z : State} {EL : List (String × Nat)} {nI : Bool} {a0 : Array Value} {l : Launch} {own nm : String} {bytes : ByteArray} {ml : Nat} {ret : Option FieldType} {R : Room} {K : Kx} {Q : Option Value → Heap → Prop} {W : List Addr} {h : Heap} {cl sl pc pc' index : Nat} {L L' : Array Slot} {S rest : List Value} {a : Addr} {C : String} {ty : FieldType}
theorem Run.new (hK : Ok Z EL a0 l own nm bytes ml ret R K) {n : Nat} (w : (Jvm.Cond.classLink own index C).before a0 Z = true) (wi : (Jvm.Cond.instantiable C n).before a0 Z = true) (wz : (Jvm.Cond.initialized C).before a0 Z = true) (hd : decode bytes pc = .ok (.new index, 3)) (hc : cl + 1 ≤ R.cells) (hl : sl + n ≤ R.slots)
    (k : ∀ h', Ext h h' → Exa Z h' h.size C → (∀ {O f d : String} {ty : FieldType}, Laid Z a0 C O f d → parseFieldDescriptor d = some ty → Fld Z h' h.size O f d (defaultValue ty)) → Run Z EL nI K Q (h.size :: W) h' (cl + 1) (sl + n) (pc + 3) L (.ref h.size :: S)) : Run Z EL nI K Q W h cl sl pc L S := by
  obtain ⟨hx, rfl, rfl, rfl, rfl, -⟩ := id hK
  refine Run.grow hK (P := fun h' => Exa Z h' h.size C ∧ (∀ {O f d : String} {ty : FieldType}, Laid Z a0 C O f d → parseFieldDescriptor d = some ty → Fld Z h' h.size O f d (defaultValue ty))) (fun T vm0 locs X hZ hown e => ?_) (fun h' E P => k h' E P.1 P.2)
  obtain ⟨T', h', X', e', E', A', D', -, st⟩ := newO X hx hZ hown w wi wz e (g := mkF K.m pc L S) rfl hd hc hl
  exact ⟨T', h', X', e', E', A'.lt, ⟨A', D'⟩, st⟩
theorem Run.newarr (hK : Ok Z EL a0 l own nm bytes ml ret R K) {aty : ArrayType} (w : (Jvm.Cond.arrayClass (newarray.typeOf aty)).before a0 Z = true) {n : Int32} (hd : decode bytes pc = .ok (.newarray aty, 2)) (hn : ¬ n < 0) {cap : Nat} (hcap : n.toNatClampNeg ≤ cap) (hb : cap * 8 ≤ 536870912) (hc : cl + 1 ≤ R.cells) (hl : sl + cap ≤ R.slots)
    (k : ∀ h' cA, Ext h h' → Arv Z h' h.size cA (newarray.typeOf aty) n [] (defaultValue (newarray.typeOf aty)) → Run Z EL nI K Q (h.size :: W) h' (cl + 1) (sl + cap) (pc + 2) L (.ref h.size :: rest)) : Run Z EL nI K Q W h cl sl pc L (.int n :: rest) := by
  obtain ⟨hx, rfl, rfl, rfl, rfl, -⟩ := id hK
  refine Run.grow hK (P := fun h' => ∃ cA, Arv Z h' h.size cA (newarray.typeOf aty) n [] (defaultValue (newarray.typeOf aty))) (fun T vm0 locs X hZ hown e => ?_) (fun h' E ⟨cA, P⟩ => k h' cA E P)
  obtain ⟨T', h', cA, X', e', E', A', st⟩ := newP X hx hZ w e (g := mkF K.m pc L (.int n :: rest)) rfl hd rfl hn hcap hb hc hl
  exact ⟨T', h', X', e', E', A'.lt, ⟨cA, Arv.new A' hn⟩, st⟩
theorem Run.getf (hK : Ok Z EL a0 l own nm bytes ml ret R K) {R0 O n d host : String} (w : (Jvm.Cond.fieldLink own index R0 n d).before a0 Z = true ∨ (Jvm.Cond.fieldLinkNest own index R0 n d host).before a0 Z = true) (via : Via Z R0 O n d) {v : Value} (F : Fld Z h a O n d v) (hd : decode bytes pc = .ok (.getfield index, 3))
    (k : Run Z EL nI K Q W h cl sl (pc + 3) L (v :: rest)) : Run Z EL nI K Q W h cl sl pc L (.ref a :: rest) := by
  obtain ⟨hx, rfl, rfl, rfl, rfl, -⟩ := id hK
  refine Run.same hK (fun T vm0 locs X hZ hown e => ?_) k
  exact getF X hx hZ hown w via e F (g := mkF K.m pc L (.ref a :: rest)) rfl rfl hd
theorem Run.gets (hK : Ok Z EL a0 l own nm bytes ml ret R K) {R0 O n d : String} (w : (Jvm.Cond.fieldLink own index R0 n d).before a0 Z = true) (via : Via Z R0 O n d) {v : Value} (F : Sta Z h O n d v) (hd : decode bytes pc = .ok (.getstatic index, 3))
    (k : Run Z EL nI K Q W h cl sl (pc + 3) L (v :: S)) : Run Z EL nI K Q W h cl sl pc L S := by
  obtain ⟨hx, rfl, rfl, rfl, rfl, -⟩ := id hK
  refine Run.same hK (fun T vm0 locs X hZ hown e => ?_) k
  exact getS (host := "") X hx hZ hown w via e F (g := mkF K.m pc L S) rfl hd
theorem Run.putf (hK : Ok Z EL a0 l own nm bytes ml ret R K) {R0 O n d host : String} {kk : Nat} (w : (Jvm.Cond.fieldLink own index R0 n d).before a0 Z = true ∨ (Jvm.Cond.fieldLinkNest own index R0 n d host).before a0 Z = true) (via : Via Z R0 O n d) {v old : Value} (F : Fld Z h a O n d old) (E : Exa Z h a C)
    (Lf : (Jvm.Cond.lays C O n d).before a0 Z = true ∨ ((Jvm.Cond.laysFinal C O n d).before a0 Z = true ∧ own = O ∧ nm = "<init>")) (wi : (Jvm.Cond.instantiable C kk).before a0 Z = true) (hty : parseFieldDescriptor d = some ty) (hn : narrow ty v = v) (hf : fits ty v = true) (ha : Z.heap.size ≤ a) (hs : Sf Z EL W h a) (hd : decode bytes pc = .ok (.putfield index, 3))
    (k : ∀ h', Wr h h' a (Jvm.RoadKit.slotOf Z O n d) v → Run Z EL nI K Q W h' cl sl (pc + 3) L rest) : Run Z EL nI K Q W h cl sl pc L (v :: .ref a :: rest) := by
  obtain ⟨hx, rfl, rfl, rfl, rfl, -, -, hnm, -⟩ := id hK
  refine Run.write hK ha hs (fun T vm0 locs X hZ hown e => ?_) k
  exact putF X hx hZ hown w via e F E (Lf.imp id fun q => ⟨q.1, q.2.1, hnm.trans q.2.2⟩) wi hty hn hf (g := mkF K.m pc L (v :: .ref a :: rest)) rfl rfl hd
theorem Run.initobj (hK : Ok Z EL a0 l own nm bytes ml ret R K) (w1 : (Jvm.Cond.methodLink own index Lib.objectInit).before a0 Z = true) (w2 : (Jvm.Cond.instanceMethod Lib.objectInit).before a0 Z = true) (w3 : (Jvm.Cond.code Lib.objectInit ⟨#[0xb1]⟩ 1 none).before a0 Z = true) (hsz : L.size = ml) (hd : decode bytes pc = .ok (.invokespecial index, 3))
    (hf : 1 ≤ R.frames) {Wt : Nat} (hW : (rest.map fun v => v.category).sum ≤ Wt) (hl : Wt + 12 ≤ R.locals) (k : Run Z EL nI K Q W h cl sl (pc + 3) L rest) : Run Z EL nI K Q W h cl sl pc L (.ref a :: rest) := by
  obtain ⟨hx, rfl, rfl, rfl, rfl, -⟩ := id hK
  refine Run.same hK (fun T vm0 locs X hZ hown e => ?_) k
  exact initO X hx hZ hown w1 w2 w3 e (g := mkF K.m pc L (.ref a :: rest)) rfl hsz rfl hd hf (W := Wt) (by show 2 * 0 + _ ≤ _; omega) hl
theorem Run.ldci (hK : Ok Z EL a0 l own nm bytes ml ret R K) {v : Int32} (w : (Jvm.Cond.constant own index v).before a0 Z = true) (hd : decode bytes pc = .ok (.ldc index, 2)) (k : Run Z EL nI K Q W h cl sl (pc + 2) L (.int v :: S)) : Run Z EL nI K Q W h cl sl pc L S := by
  obtain ⟨hx, rfl, rfl, rfl, rfl, -⟩ := id hK
  refine Run.same hK (fun T vm0 locs X hZ hown e => ⟨T, X, e, ?_⟩) k
  exact X.ldcInt hx hown (mvT hZ w) (g := mkF K.m pc L S) rfl hd
theorem Run.ldcl (hK : Ok Z EL a0 l own nm bytes ml ret R K) {v : Int64} (w : (Jvm.Cond.constantLong own index v).before a0 Z = true) (hd : decode bytes pc = .ok (.ldc2_w index, 3)) (k : Run Z EL nI K Q W h cl sl (pc + 3) L (.long v :: S)) : Run Z EL nI K Q W h cl sl pc L S := by
  obtain ⟨hx, rfl, rfl, rfl, rfl, -⟩ := id hK
  refine Run.same hK (fun T vm0 locs X hZ hown e => ⟨T, X, e, ?_⟩) k
  exact X.ldc2Long hx hown (mvT hZ w) (g := mkF K.m pc L S) rfl hd
theorem Run.alen (hK : Ok Z EL a0 l own nm bytes ml ret R K) {k0 : ClassId} {z : Int32} {vs : List Value} {dv : Value} (A : Arv Z h a k0 ty z vs dv) (hd : decode bytes pc = .ok (.arraylength, 1)) (k : Run Z EL nI K Q W h cl sl (pc + 1) L (.int z :: rest)) : Run Z EL nI K Q W h cl sl pc L (.ref a :: rest) := by
  obtain ⟨hx, rfl, rfl, rfl, rfl, -⟩ := id hK
  obtain ⟨c0, A1, -, A3, A4, -⟩ := A
  refine Run.same hK (fun T vm0 locs X hZ hown e => ⟨T, X, e, fun t st => ?_⟩) k
  refine X.arraylength hx (by rw [e]; exact A1.1) (State.isArrayOf_alike hZ.alike A1.2.1) (g := mkF K.m pc L (.ref a :: rest)) rfl rfl hd _ ?_
  rw [len_of A3 A4]; exact st
/-- what lies at a place of an array -/
theorem arv_at {k0 : ClassId} {z : Int32} {vs : List Value} {dv : Value} (A : Arv Z h a k0 ty z vs dv) {j : Int32} (hj : ¬ j < 0 ∧ j < z) : ∃ c : Cell, Arr Z h a c ty ∧ ¬ (j < 0 ∨ c.slots.size ≤ j.toNatClampNeg) ∧ c.slots[j.toNatClampNeg]? = some (vs.getD j.toNatClampNeg dv) := by
  obtain ⟨c0, A1, -, A3, A4, A5, -⟩ := A
  have hin := inb_of A3 hj
  exact ⟨c0, A1, hin, A5 _ (Nat.lt_of_not_le fun q => hin (Or.inr q))⟩
theorem Run.ald (hK : Ok Z EL a0 l own nm bytes ml ret R K) {k0 : ClassId} {z : Int32} {vs : List Value} {dv v : Value} {j : Int32} {i : Instr} (A : Arv Z h a k0 ty z vs dv) (hi : (i = .caload ∧ ty = .char) ∨ (i = .iaload ∧ ty = .int) ∨ (i = .baload ∧ ty = .byte) ∨ (i = .laload ∧ ty = .long)) (hj : ¬ j < 0 ∧ j < z) (hv : vs.getD j.toNatClampNeg dv = v) (hd : decode bytes pc = .ok (i, 1))
    (k : Run Z EL nI K Q W h cl sl (pc + 1) L (v :: rest)) : Run Z EL nI K Q W h cl sl pc L (.int j :: .ref a :: rest) := by
  obtain ⟨hx, rfl, rfl, rfl, rfl, -⟩ := id hK
  obtain ⟨c0, A1, hin, hat⟩ := arv_at A hj
  rw [hv] at hat
  refine Run.same hK (fun T vm0 locs X hZ hown e => ⟨T, X, e, fun t st => ?_⟩) k
  have q1 : T.heap[a]? = some c0 := by rw [e]; exact A1.1
  have q2 := State.isArrayOf_alike hZ.alike A1.2.1
  rcases hi with ⟨rfl, rfl⟩ | ⟨rfl, rfl⟩ | ⟨rfl, rfl⟩ | ⟨rfl, rfl⟩
  · exact X.caload hx q1 q2 A1.2.2 hin hat (g := mkF K.m pc L (.int j :: .ref a :: rest)) rfl rfl hd _ st
  · exact X.iaload hx q1 q2 A1.2.2 hin hat (g := mkF K.m pc L (.int j :: .ref a :: rest)) rfl rfl hd _ st
  · exact X.baloadBytes hx q1 q2 A1.2.2 hin hat (g := mkF K.m pc L (.int j :: .ref a :: rest)) rfl rfl hd _ st
  · exact X.laload hx q1 q2 A1.2.2 hin hat (g := mkF K.m pc L (.int j :: .ref a :: rest)) rfl rfl hd _ st
/-- an array's value list, a place written: the list is padded where it was short -/
def setv (vs : List Value) (n i : Nat) (dv v : Value) : List Value := (vs ++ List.replicate (n - vs.length) dv).set i v
theorem arv_set {k0 : ClassId} {z : Int32} {vs : List Value} {dv v : Value} (A : Arv Z h a k0 ty z vs dv) {j : Int32} (hj : ¬ j < 0 ∧ j < z) (hv : fits ty v = true) {h' : Heap} (Wt : Wr h h' a j.toNatClampNeg v) : Arv Z h' a k0 ty z (setv vs z.toNatClampNeg j.toNatClampNeg dv v) dv := by
  obtain ⟨c0, A1, A2, A3, A4, A5, A6⟩ := A.pad (pad_rep vs dv (z.toNatClampNeg - vs.length))
  have hin := inb_of A3 hj
  have hlt : j.toNatClampNeg < z.toNatClampNeg := by rw [← A3]; exact Nat.lt_of_not_le fun q => hin (Or.inr q)
  refine Arv.set A1 A2 A3 A4 A5 A6 hv Wt _ rfl ?_
  simp only [List.length_append, List.length_replicate]; omega
theorem Run.cst (hK : Ok Z EL a0 l own nm bytes ml ret R K) {k0 : ClassId} {z : Int32} {vs : List Value} {dv : Value} {j x : Int32} (A : Arv Z h a k0 .char z vs dv) (hj : ¬ j < 0 ∧ j < z) (ha : Z.heap.size ≤ a) (hd : decode bytes pc = .ok (.castore, 1))
    (k : ∀ h', Wr h h' a j.toNatClampNeg (.int (nar .char x)) → Arv Z h' a k0 .char z (setv vs z.toNatClampNeg j.toNatClampNeg dv (.int (nar .char x))) dv → Run Z EL nI K Q W h' cl sl (pc + 1) L rest) : Run Z EL nI K Q W h cl sl pc L (.int x :: .int j :: .ref a :: rest) := by
  obtain ⟨hx, rfl, rfl, rfl, rfl, -⟩ := id hK
  obtain ⟨c0, A1, hin, hat⟩ := arv_at A hj
  refine Run.write hK ha (sfA A (by decide)) (fun T vm0 locs X hZ hown e => ?_) (fun h' Wt => k h' Wt (arv_set A hj (fits_nar_char x) Wt))
  exact stC X hx hZ e A1 hin (g := mkF K.m pc L (.int x :: .int j :: .ref a :: rest)) rfl rfl hd
theorem Run.ist (hK : Ok Z EL a0 l own nm bytes ml ret R K) {k0 : ClassId} {z : Int32} {vs : List Value} {dv : Value} {j x : Int32} (A : Arv Z h a k0 .int z vs dv) (hj : ¬ j < 0 ∧ j < z) (ha : Z.heap.size ≤ a) (hd : decode bytes pc = .ok (.iastore, 1))
    (k : ∀ h', Wr h h' a j.toNatClampNeg (.int x) → Arv Z h' a k0 .int z (setv vs z.toNatClampNeg j.toNatClampNeg dv (.int x)) dv → Run Z EL nI K Q W h' cl sl (pc + 1) L rest) : Run Z EL nI K Q W h cl sl pc L (.int x :: .int j :: .ref a :: rest) := by
  obtain ⟨hx, rfl, rfl, rfl, rfl, -⟩ := id hK
  obtain ⟨c0, A1, hin, hat⟩ := arv_at A hj
  refine Run.write hK ha (sfA A (by decide)) (fun T vm0 locs X hZ hown e => ?_) (fun h' Wt => k h' Wt (arv_set A hj rfl Wt))
  exact stI X hx hZ e A1 hin (g := mkF K.m pc L (.int x :: .int j :: .ref a :: rest)) rfl rfl hd
theorem Run.lst (hK : Ok Z EL a0 l own nm bytes ml ret R K) {k0 : ClassId} {z : Int32} {vs : List Value} {dv : Value} {j : Int32} {x : Int64} (A : Arv Z h a k0 .long z vs dv) (hj : ¬ j < 0 ∧ j < z) (ha : Z.heap.size ≤ a) (hd : decode bytes pc = .ok (.lastore, 1))
    (k : ∀ h', Wr h h' a j.toNatClampNeg (.long x) → Arv Z h' a k0 .long z (setv vs z.toNatClampNeg j.toNatClampNeg dv (.long x)) dv → Run Z EL nI K Q W h' cl sl (pc + 1) L rest) : Run Z EL nI K Q W h cl sl pc L (.long x :: .int j :: .ref a :: rest) := by
  obtain ⟨hx, rfl, rfl, rfl, rfl, -⟩ := id hK
  obtain ⟨c0, A1, hin, hat⟩ := arv_at A hj
  refine Run.write hK ha (sfA A (by decide)) (fun T vm0 locs X hZ hown e => ?_) (fun h' Wt => k h' Wt (arv_set A hj rfl Wt))
  exact stJ X hx hZ e A1 hin (g := mkF K.m pc L (.long x :: .int j :: .ref a :: rest)) rfl rfl hd
theorem Run.bst (hK : Ok Z EL a0 l own nm bytes ml ret R K) {k0 : ClassId} {z : Int32} {vs : List Value} {dv : Value} {j x : Int32} (A : Arv Z h a k0 .byte z vs dv) (hj : ¬ j < 0 ∧ j < z) (ha : Z.heap.size ≤ a) (hs : Sf Z EL W h a) (hd : decode bytes pc = .ok (.bastore, 1))
    (k : ∀ h', Wr h h' a j.toNatClampNeg (.int (nar .byte x)) → Arv Z h' a k0 .byte z (setv vs z.toNatClampNeg j.toNatClampNeg dv (.int (nar .byte x))) dv → Run Z EL nI K Q W h' cl sl (pc + 1) L rest) : Run Z EL nI K Q W h cl sl pc L (.int x :: .int j :: .ref a :: rest) := by
  obtain ⟨hx, rfl, rfl, rfl, rfl, -⟩ := id hK
  obtain ⟨c0, A1, hin, hat⟩ := arv_at A hj
  refine Run.write hK ha hs (fun T vm0 locs X hZ hown e => ?_) (fun h' Wt => k h' Wt (arv_set A hj (fits_nar_byte x) Wt))
  exact stB X hx hZ e A1 hin (g := mkF K.m pc L (.int x :: .int j :: .ref a :: rest)) rfl rfl hd
/-- ldc of a String constant of EL -/
theorem Run.ldcs (hK : Ok Z EL a0 l own nm bytes ml ret R K) (hnI : nI = false) {text : String} (w : (Jvm.Cond.stringLink own index text).before a0 Z = true) (wS : ∀ d ∈ Bundle.stringAtoms, d.before a0 Z = true) (hmem : (own, index) ∈ EL)
    {vs : List Value} {z : Int32} (ht : (∀ c ∈ text.toList, c.toNat < 256) ∧ text.toList.map (fun c => Value.int (Jvm.Lit.byteI c.toNat.toUInt16)) = vs) (hz : ¬ z < 0) (hzl : z.toNatClampNeg = vs.length) (hd : decode bytes pc = .ok (.ldc index, 2)) {n : Nat} (hn : 4 * text.toList.length ≤ n) (hbig : n ≤ 536870912) (hc : cl + 2 ≤ R.cells) (hl : sl + (n + 4) ≤ R.slots)
    (k : ∀ (h' : Heap) (x b : Addr) (kb : ClassId), Ext h h' → Exa Z h' x "java/lang/String" → Fld Z h' x "java/lang/String" "coder" "B" (.int 0) → Fld Z h' x "java/lang/String" "value" "[B" (.ref b) → Arv Z h' b kb .byte z vs (.int 0) → Run Z EL nI K Q W h' (cl + 2) (sl + (n + 4)) (pc + 2) L (.ref x :: S)) : Run Z EL nI K Q W h cl sl pc L S := fun T X => by
  obtain ⟨vm0, k0, locs, X1, X2, X3, X4, X5, X6, X7, X8, X9, X10⟩ := X
  have hown := hK.fc X2
  obtain ⟨hx, rfl, rfl, rfl, rfl, -, -, -, -, hEL⟩ := id hK
  obtain ⟨x, T', h', k1, b, kb, Y, eY, E, hS, hk1, hZ', -, f1, f2, f3, f4, f5, f6, hC, -, -, st⟩ := ldcCH X1 hx X4 hown w wS X7 X2 X3 hEL hmem X5.1 ht hz hzl (g := mkF K.m pc L S) rfl hd hn hbig hc hl
  obtain ⟨s2, v', Lo, g, r⟩ := k h' x b kb E f1 f2 f3 f4 T' ⟨T'.vm, k1, locs, Y, hS, hk1, hZ', X5.trans hC, fun y hy => ⟨Nat.lt_of_lt_of_le (X6 y hy).1 E.1, hC.safe (X6 y hy).1 (X6 y hy).2⟩, eY, X8, fun q => by (rw [hnI] at q; cases q), Nat.le_trans X10.1 E.1, fun x c q => E.2 x c (X10.2 x c q)⟩
  exact ⟨s2, v', Lo, st _ g, r⟩
/-- the ends -/
theorem Run.ends (hK : Ok Z EL a0 l own nm bytes ml ret R K) {v : Option Value} (hv : ret = none → v = none) (hc : cl ≤ R.cells) (hs : sl ≤ R.slots)
    (f : ∀ T vm0 locs fs, Stand K.p K.l K.e K.R (K.s.setVm vm0) K.m K.as K.bl K.me K.c T locs cl sl → (∀ (f : JFrame) (acts : List Action), f.method = K.m → f.locked = none → f.entered = [] → (doReturn K.e (T.setTop f) acts v).1 = T.setFrames fs) → Steps K.p.tables K.e K.bl (T.setTop (mkF K.m pc L S)) (T.setFrames fs)) (hQ : Q v h) : Run Z EL nI K Q W h cl sl pc L S := fun T X => by
  obtain ⟨vm0, k0, locs, X1, X2, X3, X4, X5, X6, X7, X8, X9, X10⟩ := X
  obtain ⟨hx, -, rfl, -, -, rfl, hlk, -, -, hEL⟩ := id hK
  obtain ⟨fs, hr, hrun, hended, hW⟩ := X1.leaveW X2 (by rw [X7]; exact X3) (v := v) hv hlk
  have hh : (T.setFrames fs).heap = h := X7
  have B := CHv.at X1 X4 hEL X5.1
  obtain ⟨w1, w2, w3, w4⟩ := hW
  refine ⟨T.setFrames fs, v, locs, f T vm0 locs fs X1 hr, hrun, hended, by rw [hh]; exact hQ, X8, by rw [hh]; exact X5.trans B, ⟨w1, w2, w3, w4.mono hc hs⟩, fun q => State.WarmedH.trans (X9 q) X1.warmed, by rw [hh]; exact X10⟩
theorem Run.retw (hK : Ok Z EL a0 l own nm bytes ml (some ty) R K) {w : Value} {i : Instr} (hn : narrow ty w = w)
    (hi : (i = .ireturn ∧ (ty = .int ∨ ty = .boolean ∨ ty = .byte ∨ ty = .char ∨ ty = .short) ∧ ∃ z, w = .int z) ∨ (i = .lreturn ∧ ty = .long ∧ ∃ z, w = .long z) ∨ (i = .dreturn ∧ ty = .double ∧ ∃ z, w = .double z) ∨ (i = .freturn ∧ ty = .float ∧ ∃ z, w = .float z) ∨ (i = .areturn ∧ ty.isReference = true ∧ w.isRef = true))
    (hd : decode bytes pc = .ok (i, 1)) (hc : cl ≤ R.cells) (hs : sl ≤ R.slots) (hQ : Q (some w) h) : Run Z EL nI K Q W h cl sl pc L (w :: rest) :=
  Run.ends hK (v := some w) (fun q => by cases q) hc hs (fun T vm0 locs fs X hr => by
    obtain ⟨hx, rfl, rfl, rfl, rfl, hrt, -⟩ := id hK
    exact retOut X hx hrt hn hi hd hr) hQ
theorem Run.retv (hK : Ok Z EL a0 l own nm bytes ml none R K) (hd : decode bytes pc = .ok (.return_, 1)) (hc : cl ≤ R.cells) (hs : sl ≤ R.slots) (hQ : Q none h) : Run Z EL nI K Q W h cl sl pc L [] :=
  Run.ends hK (v := none) (fun _ => rfl) hc hs (fun T vm0 locs fs X hr => by
    obtain ⟨hx, rfl, rfl, rfl, rfl, hrt, -⟩ := id hK
    exact X.returnOut hx hrt hd hr) hQ
end Single
/-! plain steps, by evaluation -/
abbrev Fr3 : Type := Nat × Array Slot × List Value
def ldI (len n pc : Nat) (L : Array Slot) (S : List Value) (k : Nat) : Option Fr3 := if len = n then (match L[k]? with | some (.val (.int v)) => some (pc + n, L, .int v :: S) | _ => none) else none
def ldJ (len n pc : Nat) (L : Array Slot) (S : List Value) (k : Nat) : Option Fr3 := if len = n then (match L[k]? with | some (.val (.long v)) => some (pc + n, L, .long v :: S) | _ => none) else none
def ldA (len n pc : Nat) (L : Array Slot) (S : List Value) (k : Nat) : Option Fr3 := if len = n then (match L[k]? with | some (.val (.ref v)) => some (pc + n, L, .ref v :: S) | some (.val .null) => some (pc + n, L, .null :: S) | _ => none) else none
def stI' (len n pc : Nat) (L : Array Slot) (S : List Value) (k : Nat) : Option Fr3 := if len = n then (match S with | .int v :: r => (match storeLocals L k (.int v) with | some L' => some (pc + n, L', r) | none => none) | _ => none) else none
def stJ' (len n pc : Nat) (L : Array Slot) (S : List Value) (k : Nat) : Option Fr3 := if len = n then (match S with | .long v :: r => (match storeLocals L k (.long v) with | some L' => some (pc + n, L', r) | none => none) | _ => none) else none
def stA' (len n pc : Nat) (L : Array Slot) (S : List Value) (k : Nat) : Option Fr3 := if len = n then (match S with | .ref v :: r => (match storeLocals L k (.ref v) with | some L' => some (pc + n, L', r) | none => none) | .null :: r => (match storeLocals L k .null with | some L' => some (pc + n, L', r) | none => none) | _ => none) else none
def cst (len n pc : Nat) (L : Array Slot) (S : List Value) (v : Value) : Option Fr3 := if len = n then some (pc + n, L, v :: S) else none
def bI (len pc : Nat) (L : Array Slot) (S : List Value) (f : Int32 → Int32 → Int32) : Option Fr3 := if len = 1 then (match S with | .int y :: .int x :: r => some (pc + 1, L, .int (f x y) :: r) | _ => none) else none
def bI0 (len pc : Nat) (L : Array Slot) (S : List Value) (f : Int32 → Int32 → Int32) : Option Fr3 := if len = 1 then (match S with | .int y :: .int x :: r => if y = 0 then none else some (pc + 1, L, .int (f x y) :: r) | _ => none) else none
def bJ (len pc : Nat) (L : Array Slot) (S : List Value) (f : Int64 → Int64 → Int64) : Option Fr3 := if len = 1 then (match S with | .long y :: .long x :: r => some (pc + 1, L, .long (f x y) :: r) | _ => none) else none
def bJ0 (len pc : Nat) (L : Array Slot) (S : List Value) (f : Int64 → Int64 → Int64) : Option Fr3 := if len = 1 then (match S with | .long y :: .long x :: r => if y = 0 then none else some (pc + 1, L, .long (f x y) :: r) | _ => none) else none
def bS (len pc : Nat) (L : Array Slot) (S : List Value) (f : Int64 → Int32 → Int64) : Option Fr3 := if len = 1 then (match S with | .int y :: .long x :: r => some (pc + 1, L, .long (f x y) :: r) | _ => none) else none
def uI (len pc : Nat) (L : Array Slot) (S : List Value) (f : Int32 → Value) : Option Fr3 := if len = 1 then (match S with | .int x :: r => some (pc + 1, L, f x :: r) | _ => none) else none
def uJ (len pc : Nat) (L : Array Slot) (S : List Value) (f : Int64 → Value) : Option Fr3 := if len = 1 then (match S with | .long x :: r => some (pc + 1, L, f x :: r) | _ => none) else none
def cJ (len pc : Nat) (L : Array Slot) (S : List Value) : Option Fr3 := if len = 1 then (match S with | .long y :: .long x :: r => some (pc + 1, L, .int (XT.cmpL x y) :: r) | _ => none) else none
def one? : Value → Bool
  | .int _ => true
  | .ref _ => true
  | .null => true
  | _ => false
theorem one_cat {v : Value} (h : one? v = true) : v.category = 1 := by cases v <;> first | rfl | cases h
def dp (len pc : Nat) (L : Array Slot) (S : List Value) : Option Fr3 := if len = 1 then (match S with | x :: r => if one? x = true then some (pc + 1, L, x :: x :: r) else none | _ => none) else none
def dpx (len pc : Nat) (L : Array Slot) (S : List Value) : Option Fr3 := if len = 1 then (match S with | x :: y :: r => if one? x = true then (if one? y = true then some (pc + 1, L, x :: y :: x :: r) else none) else none | _ => none) else none
def dp2 (len pc : Nat) (L : Array Slot) (S : List Value) : Option Fr3 := if len = 1 then (match S with | x :: y :: r => if one? x = true then (if one? y = true then some (pc + 1, L, x :: y :: x :: y :: r) else none) else none | _ => none) else none
def pp (len pc : Nat) (L : Array Slot) (S : List Value) : Option Fr3 := if len = 1 then (match S with | x :: r => if one? x = true then some (pc + 1, L, r) else none | _ => none) else none
def inc (len pc : Nat) (L : Array Slot) (S : List Value) (k : Nat) (c : Int) : Option Fr3 := if len = 3 then (match L[k]? with | some (.val (.int v)) => (match storeLocals L k (.int (v + Int32.ofInt c)) with | some L' => some (pc + 3, L', S) | none => none) | _ => none) else none
def jmp (len pc : Nat) (L : Array Slot) (S : List Value) (o : Int) : Option Fr3 := if len = 3 then (if 0 ≤ (pc : Int) + o then some (((pc : Int) + o).toNat, L, S) else none) else none
def stp (i : Instr) (len pc : Nat) (L : Array Slot) (S : List Value) : Option Fr3 :=
  match i with
  | .iload_n k => ldI len 1 pc L S k.val
  | .iload k => ldI len 2 pc L S k
  | .lload_n k => ldJ len 1 pc L S k.val
  | .lload k => ldJ len 2 pc L S k
  | .aload_n k => ldA len 1 pc L S k.val
  | .aload k => ldA len 2 pc L S k
  | .istore_n k => stI' len 1 pc L S k.val
  | .istore k => stI' len 2 pc L S k
  | .lstore_n k => stJ' len 1 pc L S k.val
  | .lstore k => stJ' len 2 pc L S k
  | .astore_n k => stA' len 1 pc L S k.val
  | .astore k => stA' len 2 pc L S k
  | .iconst c => cst len 1 pc L S (.int (Int32.ofInt c))
  | .bipush c => cst len 2 pc L S (.int (Int8.ofInt c).toInt32)
  | .sipush c => cst len 3 pc L S (.int (Int16.ofInt c).toInt32)
  | .aconst_null => cst len 1 pc L S .null
  | .lconst k => cst len 1 pc L S (.long (Int64.ofNat k))
  | .iadd => bI len pc L S (· + ·)
  | .isub => bI len pc L S (· - ·)
  | .imul => bI len pc L S (· * ·)
  | .iand => bI len pc L S (· &&& ·)
  | .ior => bI len pc L S (· ||| ·)
  | .ixor => bI len pc L S (· ^^^ ·)
  | .ishl => bI len pc L S (fun x y => x <<< (y &&& 31))
  | .ishr => bI len pc L S (fun x y => x >>> (y &&& 31))
  | .iushr => bI len pc L S XT.ushr
  | .irem => bI0 len pc L S (· % ·)
  | .idiv => bI0 len pc L S (· / ·)
  | .ineg => uI len pc L S (fun x => .int (-x))
  | .ladd => bJ len pc L S (· + ·)
  | .lsub => bJ len pc L S (· - ·)
  | .land => bJ len pc L S (· &&& ·)
  | .lor => bJ len pc L S (· ||| ·)
  | .lushr => bS len pc L S XT.ushrL
  | .lshl => bS len pc L S (fun x y => x <<< (y.toInt64 &&& 63))
  | .lrem => bJ0 len pc L S (fun x y => x - (x / y) * y)
  | .i2l => uI len pc L S (fun x => .long x.toInt64)
  | .l2i => uJ len pc L S (fun x => .int x.toInt32)
  | .i2b => uI len pc L S (fun x => .int x.toInt8.toInt32)
  | .i2c => uI len pc L S (fun x => .int x.toUInt32.toUInt16.toUInt32.toInt32)
  | .lcmp => cJ len pc L S
  | .dup => dp len pc L S
  | .dup_x1 => dpx len pc L S
  | .dup2 => dp2 len pc L S
  | .pop => pp len pc L S
  | .iinc k c => inc len pc L S k c
  | .goto o => jmp len pc L S o
  | _ => none
def stq : List (Nat × Instr × Nat) → Nat → Array Slot → List Value → Option Fr3
  | [], pc, L, S => some (pc, L, S)
  | (p, i, len) :: r, pc, L, S => if p = pc then (match stp i len pc L S with | none => none | some (pc', L', S') => stq r pc' L' S') else none
section PlainSteps
variable {tb : Tables} [Ours tb] {e : Env} {below : List Frame} {T t : State} {m : MethodId} {c : Code} {pc pc' len : Nat} {L L' : Array Slot} {S S' : List Value} {i : Instr}
theorem ldI_s {n k : Nat} {r : Fr3} (h : ldI len n pc L S k = some r) : len = n ∧ ∃ v, L[k]? = some (.val (.int v)) ∧ r = (pc + n, L, .int v :: S) := by
  unfold ldI at h
  by_cases q : len = n
  · rw [if_pos q] at h
    split at h
    · rename_i v e; cases h; exact ⟨q, v, e, rfl⟩
    · cases h
  · rw [if_neg q] at h; cases h
theorem ldJ_s {n k : Nat} {r : Fr3} (h : ldJ len n pc L S k = some r) : len = n ∧ ∃ v, L[k]? = some (.val (.long v)) ∧ r = (pc + n, L, .long v :: S) := by
  unfold ldJ at h
  by_cases q : len = n
  · rw [if_pos q] at h
    split at h
    · rename_i v e; cases h; exact ⟨q, v, e, rfl⟩
    · cases h
  · rw [if_neg q] at h; cases h
theorem ldA_s {n k : Nat} {r : Fr3} (h : ldA len n pc L S k = some r) : len = n ∧ ∃ v : Value, v.isRef = true ∧ L[k]? = some (.val v) ∧ r = (pc + n, L, v :: S) := by
  unfold ldA at h
  by_cases q : len = n
  · rw [if_pos q] at h
    split at h
    · rename_i v e; cases h; exact ⟨q, _, rfl, e, rfl⟩
    · rename_i e; cases h; exact ⟨q, _, rfl, e, rfl⟩
    · cases h
  · rw [if_neg q] at h; cases h
theorem stI_s {n k : Nat} {r : Fr3} (h : stI' len n pc L S k = some r) : len = n ∧ ∃ v S' L', S = .int v :: S' ∧ storeLocals L k (.int v) = some L' ∧ r = (pc + n, L', S') := by
  unfold stI' at h
  by_cases q : len = n
  · rw [if_pos q] at h
    split at h
    · split at h
      · rename_i e; cases h; exact ⟨q, _, _, _, rfl, e, rfl⟩
      · cases h
    · cases h
  · rw [if_neg q] at h; cases h
theorem stJ_s {n k : Nat} {r : Fr3} (h : stJ' len n pc L S k = some r) : len = n ∧ ∃ v S' L', S = .long v :: S' ∧ storeLocals L k (.long v) = some L' ∧ r = (pc + n, L', S') := by
  unfold stJ' at h
  by_cases q : len = n
  · rw [if_pos q] at h
    split at h
    · split at h
      · rename_i e; cases h; exact ⟨q, _, _, _, rfl, e, rfl⟩
      · cases h
    · cases h
  · rw [if_neg q] at h; cases h
theorem stA_s {n k : Nat} {r : Fr3} (h : stA' len n pc L S k = some r) : len = n ∧ ∃ (v : Value) (S' : List Value) (L' : Array Slot), v.isRef = true ∧ S = v :: S' ∧ storeLocals L k v = some L' ∧ r = (pc + n, L', S') := by
  unfold stA' at h
  by_cases q : len = n
  · rw [if_pos q] at h
    split at h
    · split at h
      · rename_i e; cases h; exact ⟨q, _, _, _, rfl, rfl, e, rfl⟩
      · cases h
    · split at h
      · rename_i e; cases h; exact ⟨q, _, _, _, rfl, rfl, e, rfl⟩
      · cases h
    · cases h
  · rw [if_neg q] at h; cases h
theorem cst_s {n : Nat} {v : Value} {r : Fr3} (h : cst len n pc L S v = some r) : len = n ∧ r = (pc + n, L, v :: S) := by
  unfold cst at h
  by_cases q : len = n
  · rw [if_pos q] at h; cases h; exact ⟨q, rfl⟩
  · rw [if_neg q] at h; cases h
theorem bI_s {f : Int32 → Int32 → Int32} {r : Fr3} (h : bI len pc L S f = some r) : len = 1 ∧ ∃ x y S', S = .int y :: .int x :: S' ∧ r = (pc + 1, L, .int (f x y) :: S') := by
  unfold bI at h
  by_cases q : len = 1
  · rw [if_pos q] at h
    split at h
    · cases h; exact ⟨q, _, _, _, rfl, rfl⟩
    · cases h
  · rw [if_neg q] at h; cases h
theorem bI0_s {f : Int32 → Int32 → Int32} {r : Fr3} (h : bI0 len pc L S f = some r) : len = 1 ∧ ∃ x y S', ¬ y = 0 ∧ S = .int y :: .int x :: S' ∧ r = (pc + 1, L, .int (f x y) :: S') := by
  unfold bI0 at h
  by_cases q : len = 1
  · rw [if_pos q] at h
    split at h
    · split at h
      · cases h
      · rename_i q0; cases h; exact ⟨q, _, _, _, q0, rfl, rfl⟩
    · cases h
  · rw [if_neg q] at h; cases h
theorem bJ_s {f : Int64 → Int64 → Int64} {r : Fr3} (h : bJ len pc L S f = some r) : len = 1 ∧ ∃ x y S', S = .long y :: .long x :: S' ∧ r = (pc + 1, L, .long (f x y) :: S') := by
  unfold bJ at h
  by_cases q : len = 1
  · rw [if_pos q] at h
    split at h
    · cases h; exact ⟨q, _, _, _, rfl, rfl⟩
    · cases h
  · rw [if_neg q] at h; cases h
theorem bJ0_s {f : Int64 → Int64 → Int64} {r : Fr3} (h : bJ0 len pc L S f = some r) : len = 1 ∧ ∃ x y S', ¬ y = 0 ∧ S = .long y :: .long x :: S' ∧ r = (pc + 1, L, .long (f x y) :: S') := by
  unfold bJ0 at h
  by_cases q : len = 1
  · rw [if_pos q] at h
    split at h
    · split at h
      · cases h
      · rename_i q0; cases h; exact ⟨q, _, _, _, q0, rfl, rfl⟩
    · cases h
  · rw [if_neg q] at h; cases h
theorem bS_s {f : Int64 → Int32 → Int64} {r : Fr3} (h : bS len pc L S f = some r) : len = 1 ∧ ∃ x y S', S = .int y :: .long x :: S' ∧ r = (pc + 1, L, .long (f x y) :: S') := by
  unfold bS at h
  by_cases q : len = 1
  · rw [if_pos q] at h
    split at h
    · cases h; exact ⟨q, _, _, _, rfl, rfl⟩
    · cases h
  · rw [if_neg q] at h; cases h
theorem uI_s {f : Int32 → Value} {r : Fr3} (h : uI len pc L S f = some r) : len = 1 ∧ ∃ x S', S = .int x :: S' ∧ r = (pc + 1, L, f x :: S') := by
  unfold uI at h
  by_cases q : len = 1
  · rw [if_pos q] at h
    split at h
    · cases h; exact ⟨q, _, _, rfl, rfl⟩
    · cases h
  · rw [if_neg q] at h; cases h
theorem uJ_s {f : Int64 → Value} {r : Fr3} (h : uJ len pc L S f = some r) : len = 1 ∧ ∃ x S', S = .long x :: S' ∧ r = (pc + 1, L, f x :: S') := by
  unfold uJ at h
  by_cases q : len = 1
  · rw [if_pos q] at h
    split at h
    · cases h; exact ⟨q, _, _, rfl, rfl⟩
    · cases h
  · rw [if_neg q] at h; cases h
theorem cJ_s {r : Fr3} (h : cJ len pc L S = some r) : len = 1 ∧ ∃ x y S', S = .long y :: .long x :: S' ∧ r = (pc + 1, L, .int (XT.cmpL x y) :: S') := by
  unfold cJ at h
  by_cases q : len = 1
  · rw [if_pos q] at h
    split at h
    · cases h; exact ⟨q, _, _, _, rfl, rfl⟩
    · cases h
  · rw [if_neg q] at h; cases h
theorem dp_s {r : Fr3} (h : dp len pc L S = some r) : len = 1 ∧ ∃ x S', one? x = true ∧ S = x :: S' ∧ r = (pc + 1, L, x :: x :: S') := by
  unfold dp at h
  by_cases q : len = 1
  · rw [if_pos q] at h
    split at h
    · split at h
      · rename_i q0; cases h; exact ⟨q, _, _, q0, rfl, rfl⟩
      · cases h
    · cases h
  · rw [if_neg q] at h; cases h
theorem pp_s {r : Fr3} (h : pp len pc L S = some r) : len = 1 ∧ ∃ x S', one? x = true ∧ S = x :: S' ∧ r = (pc + 1, L, S') := by
  unfold pp at h
  by_cases q : len = 1
  · rw [if_pos q] at h
    split at h
    · split at h
      · rename_i q0; cases h; exact ⟨q, _, _, q0, rfl, rfl⟩
      · cases h
    · cases h
  · rw [if_neg q] at h; cases h
theorem dpx_s {r : Fr3} (h : dpx len pc L S = some r) : len = 1 ∧ ∃ x y S', one? x = true ∧ one? y = true ∧ S = x :: y :: S' ∧ r = (pc + 1, L, x :: y :: x :: S') := by
  unfold dpx at h
  by_cases q : len = 1
  · rw [if_pos q] at h
    split at h
    · split at h
      · rename_i q0
        split at h
        · rename_i q1; cases h; exact ⟨q, _, _, _, q0, q1, rfl, rfl⟩
        · cases h
      · cases h
    · cases h
  · rw [if_neg q] at h; cases h
theorem dp2_s {r : Fr3} (h : dp2 len pc L S = some r) : len = 1 ∧ ∃ x y S', one? x = true ∧ one? y = true ∧ S = x :: y :: S' ∧ r = (pc + 1, L, x :: y :: x :: y :: S') := by
  unfold dp2 at h
  by_cases q : len = 1
  · rw [if_pos q] at h
    split at h
    · split at h
      · rename_i q0
        split at h
        · rename_i q1; cases h; exact ⟨q, _, _, _, q0, q1, rfl, rfl⟩
        · cases h
      · cases h
    · cases h
  · rw [if_neg q] at h; cases h
theorem inc_s {k : Nat} {d : Int} {r : Fr3} (h : inc len pc L S k d = some r) : len = 3 ∧ ∃ v L', L[k]? = some (.val (.int v)) ∧ storeLocals L k (.int (v + Int32.ofInt d)) = some L' ∧ r = (pc + 3, L', S) := by
  unfold inc at h
  by_cases q : len = 3
  · rw [if_pos q] at h
    split at h
    · rename_i v e
      split at h
      · rename_i e2; cases h; exact ⟨q, _, _, e, e2, rfl⟩
      · cases h
    · cases h
  · rw [if_neg q] at h; cases h
theorem jmp_s {o : Int} {r : Fr3} (h : jmp len pc L S o = some r) : len = 3 ∧ 0 ≤ (pc : Int) + o ∧ r = (((pc : Int) + o).toNat, L, S) := by
  unfold jmp at h
  by_cases q : len = 3
  · rw [if_pos q] at h
    split at h
    · rename_i q0; cases h; exact ⟨q, q0, rfl⟩
    · cases h
  · rw [if_neg q] at h; cases h
set_option maxHeartbeats 4000000 in
theorem stp_ok (h : At T m c below) (hx : tb.exec = Jvm.exec) (hd : decode c.code pc = .ok (i, len)) (hs : stp i len pc L S = some (pc', L', S')) (st : Steps tb e below (T.setTop (mkF m pc' L' S')) t) : Steps tb e below (T.setTop (mkF m pc L S)) t := by
  unfold stp at hs
  split at hs
  case h_1 => obtain ⟨rfl, v, e1, e2⟩ := ldI_s hs; cases e2; exact XS.iloadN h hx rfl hd e1 st
  case h_2 => obtain ⟨rfl, v, e1, e2⟩ := ldI_s hs; cases e2; exact XS.iload h hx rfl hd e1 st
  case h_3 => obtain ⟨rfl, v, e1, e2⟩ := ldJ_s hs; cases e2; exact XT.lloadN h hx rfl hd e1 st
  case h_4 => obtain ⟨rfl, v, e1, e2⟩ := ldJ_s hs; cases e2; exact XT.lload h hx rfl hd e1 st
  case h_5 => obtain ⟨rfl, v, e0, e1, e2⟩ := ldA_s hs; cases e2; exact XS.aloadN h hx rfl hd e1 e0 st
  case h_6 => obtain ⟨rfl, v, e0, e1, e2⟩ := ldA_s hs; cases e2; exact XS.aload h hx rfl hd e1 e0 st
  case h_7 => obtain ⟨rfl, v, S1, L1, rfl, e1, e2⟩ := stI_s hs; cases e2; exact XS.istoreN h hx rfl hd rfl e1 st
  case h_8 => obtain ⟨rfl, v, S1, L1, rfl, e1, e2⟩ := stI_s hs; cases e2; exact XS.istore h hx rfl hd rfl e1 st
  case h_9 => obtain ⟨rfl, v, S1, L1, rfl, e1, e2⟩ := stJ_s hs; cases e2; exact XT.lstoreN h hx rfl hd rfl e1 st
  case h_10 => obtain ⟨rfl, v, S1, L1, rfl, e1, e2⟩ := stJ_s hs; cases e2; exact XT.lstore h hx rfl hd rfl e1 st
  case h_11 => obtain ⟨rfl, v, S1, L1, e0, rfl, e1, e2⟩ := stA_s hs; cases e2; exact XS.astoreN h hx rfl hd rfl e0 e1 st
  case h_12 => obtain ⟨rfl, v, S1, L1, e0, rfl, e1, e2⟩ := stA_s hs; cases e2; exact XS.astore h hx rfl hd rfl e0 e1 st
  case h_13 => obtain ⟨rfl, e2⟩ := cst_s hs; cases e2; exact XS.iconst h hx rfl hd st
  case h_14 => obtain ⟨rfl, e2⟩ := cst_s hs; cases e2; exact XS.bipush h hx rfl hd st
  case h_15 => obtain ⟨rfl, e2⟩ := cst_s hs; cases e2; exact XS.sipush h hx rfl hd st
  case h_16 => obtain ⟨rfl, e2⟩ := cst_s hs; cases e2; exact XS.aconstNull h hx rfl hd st
  case h_17 => obtain ⟨rfl, e2⟩ := cst_s hs; cases e2; exact XT.lconst h hx rfl hd st
  case h_18 => obtain ⟨rfl, x, y, S1, rfl, e2⟩ := bI_s hs; cases e2; exact XS.iadd h hx rfl hd rfl st
  case h_19 => obtain ⟨rfl, x, y, S1, rfl, e2⟩ := bI_s hs; cases e2; exact XS.isub h hx rfl hd rfl st
  case h_20 => obtain ⟨rfl, x, y, S1, rfl, e2⟩ := bI_s hs; cases e2; exact XS.imul h hx rfl hd rfl st
  case h_21 => obtain ⟨rfl, x, y, S1, rfl, e2⟩ := bI_s hs; cases e2; exact XS.iand h hx rfl hd rfl st
  case h_22 => obtain ⟨rfl, x, y, S1, rfl, e2⟩ := bI_s hs; cases e2; exact XT.ior h hx rfl hd rfl st
  case h_23 => obtain ⟨rfl, x, y, S1, rfl, e2⟩ := bI_s hs; cases e2; exact XT.ixor h hx rfl hd rfl st
  case h_24 => obtain ⟨rfl, x, y, S1, rfl, e2⟩ := bI_s hs; cases e2; exact XT.ishl h hx rfl hd rfl st
  case h_25 => obtain ⟨rfl, x, y, S1, rfl, e2⟩ := bI_s hs; cases e2; exact XT.ishr h hx rfl hd rfl st
  case h_26 => obtain ⟨rfl, x, y, S1, rfl, e2⟩ := bI_s hs; cases e2; exact XT.iushr h hx rfl hd rfl st
  case h_27 => obtain ⟨rfl, x, y, S1, q0, rfl, e2⟩ := bI0_s hs; cases e2; refine XS.irem h hx rfl hd rfl q0 ?_; have q1 : x - x / y * y = x % y := irem_eq_mod x y; rw [q1]; exact st
  case h_28 => obtain ⟨rfl, x, y, S1, q0, rfl, e2⟩ := bI0_s hs; cases e2; exact XS.idiv h hx rfl hd rfl q0 st
  case h_29 => obtain ⟨rfl, x, S1, rfl, e2⟩ := uI_s hs; cases e2; exact XS.ineg h hx rfl hd rfl st
  case h_30 => obtain ⟨rfl, x, y, S1, rfl, e2⟩ := bJ_s hs; cases e2; exact XT.ladd h hx rfl hd rfl st
  case h_31 => obtain ⟨rfl, x, y, S1, rfl, e2⟩ := bJ_s hs; cases e2; exact XT.lsub h hx rfl hd rfl st
  case h_32 => obtain ⟨rfl, x, y, S1, rfl, e2⟩ := bJ_s hs; cases e2; exact XT.land h hx rfl hd rfl st
  case h_33 => obtain ⟨rfl, x, y, S1, rfl, e2⟩ := bJ_s hs; cases e2; exact XT.lor h hx rfl hd rfl st
  case h_34 => obtain ⟨rfl, x, y, S1, rfl, e2⟩ := bS_s hs; cases e2; exact XT.lushr h hx rfl hd rfl st
  case h_35 => obtain ⟨rfl, x, y, S1, rfl, e2⟩ := bS_s hs; cases e2; exact XT.lshl h hx rfl hd rfl st
  case h_36 => obtain ⟨rfl, x, y, S1, q0, rfl, e2⟩ := bJ0_s hs; cases e2; exact XT.lrem h hx rfl hd rfl q0 st
  case h_37 => obtain ⟨rfl, x, S1, rfl, e2⟩ := uI_s hs; cases e2; exact XT.i2l h hx rfl hd rfl st
  case h_38 => obtain ⟨rfl, x, S1, rfl, e2⟩ := uJ_s hs; cases e2; exact XT.l2i h hx rfl hd rfl st
  case h_39 => obtain ⟨rfl, x, S1, rfl, e2⟩ := uI_s hs; cases e2; exact XT.i2b h hx rfl hd rfl st
  case h_40 => obtain ⟨rfl, x, S1, rfl, e2⟩ := uI_s hs; cases e2; exact XT.i2c h hx rfl hd rfl st
  case h_41 => obtain ⟨rfl, x, y, S1, rfl, e2⟩ := cJ_s hs; cases e2; exact XT.lcmp h hx rfl hd rfl st
  case h_42 => obtain ⟨rfl, x, S1, q0, rfl, e2⟩ := dp_s hs; cases e2; exact XS.dup h hx rfl hd rfl (one_cat q0) st
  case h_43 => obtain ⟨rfl, x, y, S1, q0, q1, rfl, e2⟩ := dpx_s hs; cases e2; exact XT.dupX1 h hx rfl hd rfl (one_cat q0) (one_cat q1) st
  case h_44 => obtain ⟨rfl, x, y, S1, q0, q1, rfl, e2⟩ := dp2_s hs; cases e2; exact XT.dup2 h hx rfl hd rfl (one_cat q0) (one_cat q1) st
  case h_45 => obtain ⟨rfl, x, S1, q0, rfl, e2⟩ := pp_s hs; cases e2; exact XT.pop h hx rfl hd rfl (one_cat q0) st
  case h_46 => obtain ⟨rfl, v, L1, e0, e1, e2⟩ := inc_s hs; cases e2; exact XS.iinc h hx rfl hd e0 e1 st
  case h_47 => obtain ⟨rfl, q0, e2⟩ := jmp_s hs; cases e2; exact XS.goto h hx rfl rfl hd q0 rfl st
  case h_48 => cases hs
theorem stq_nil {r : Fr3} (h : stq [] pc L S = some r) : r = (pc, L, S) := (Option.some.inj h).symm
theorem stq_cons {p : Nat} {seg : List (Nat × Instr × Nat)} {r : Fr3} (h : stq ((p, i, len) :: seg) pc L S = some r) : p = pc ∧ ∃ pc1 L1 S1, stp i len pc L S = some (pc1, L1, S1) ∧ stq seg pc1 L1 S1 = some r := by
  have e : stq ((p, i, len) :: seg) pc L S = if p = pc then (match stp i len pc L S with | none => none | some (pc', L', S') => stq seg pc' L' S') else none := rfl
  rw [e] at h
  by_cases q : p = pc
  · rw [if_pos q] at h
    cases e1 : stp i len pc L S with
    | none => rw [e1] at h; cases h
    | some x => obtain ⟨pc1, L1, S1⟩ := x; rw [e1] at h; exact ⟨q, pc1, L1, S1, rfl, h⟩
  · rw [if_neg q] at h; cases h
theorem stq_ok (h : At T m c below) (hx : tb.exec = Jvm.exec) (seg : List (Nat × Instr × Nat)) : ∀ (pc : Nat) (L : Array Slot) (S : List Value), (∀ x ∈ seg, decode c.code x.1 = .ok x.2) → stq seg pc L S = some (pc', L', S') → Steps tb e below (T.setTop (mkF m pc' L' S')) t → Steps tb e below (T.setTop (mkF m pc L S)) t := by
  induction seg with
  | nil =>
    intro pc L S _ hs st
    have e := stq_nil hs
    simp only [Prod.mk.injEq] at e
    obtain ⟨rfl, rfl, rfl⟩ := e
    exact st
  | cons a r ih =>
    intro pc L S hseg hs st
    obtain ⟨p, i, len⟩ := a
    obtain ⟨rfl, pc1, L1, S1, e1, e2⟩ := stq_cons hs
    have hd := hseg _ (List.mem_cons_self ..)
    have hr := ih pc1 L1 S1 (fun x hm => hseg x (List.mem_cons_of_mem _ hm)) e2 st
    exact stp_ok h hx hd e1 hr
end PlainSteps
section Branches
variable {Z : State} {EL : List (String × Nat)} {nI : Bool} {a0 : Array Value} {l : Launch} {own nm : String} {bytes : ByteArray} {ml : Nat} {ret : Option FieldType} {R : Room} {K : Kx} {Q : Option Value → Heap → Prop} {W : List Addr} {h : Heap} {cl sl pc pc' : Nat} {L L' : Array Slot} {S S' rest : List Value} {x y : Int32} {o : Int} {a : Addr}
def segOk (bytes : ByteArray) (seg : List (Nat × Instr × Nat)) : Bool := seg.all fun x => decide (decode bytes x.1 = .ok x.2)
theorem Run.pure (hK : Ok Z EL a0 l own nm bytes ml ret R K) {seg : List (Nat × Instr × Nat)} (hseg : segOk bytes seg = true) (hs : stq seg pc L S = some (pc', L', S')) (k : Run Z EL nI K Q W h cl sl pc' L' S') : Run Z EL nI K Q W h cl sl pc L S := by
  obtain ⟨hx, rfl, rfl, rfl, rfl, -⟩ := id hK
  refine Run.step hK (fun T X t st => stq_ok X hx seg pc L S (fun x hm => ?_) hs st) k
  exact of_decide_eq_true (List.all_eq_true.mp hseg x hm)
theorem Run.icmp (hK : Ok Z EL a0 l own nm bytes ml ret R K) {cd : ClassFile.Cond} (hd : decode bytes pc = .ok (.if_icmp cd o, 3)) (ho : 0 ≤ (pc : Int) + o) (hp : ((pc : Int) + o).toNat = pc')
    (kY : if_icmp.holds cd x y = true → Run Z EL nI K Q W h cl sl pc' L rest) (kN : if_icmp.holds cd x y = false → Run Z EL nI K Q W h cl sl (pc + 3) L rest) : Run Z EL nI K Q W h cl sl pc L (.int y :: .int x :: rest) := by
  obtain ⟨hx, rfl, rfl, rfl, rfl, -⟩ := id hK
  cases hc : if_icmp.holds cd x y
  · exact Run.step hK (fun T X t st => XS.icmpNo X hx rfl hd rfl hc st) (kN hc)
  · exact Run.step hK (fun T X t st => XS.icmpYes X hx rfl (pc0 := pc) rfl hd rfl hc ho hp st) (kY hc)
theorem Run.ifz (hK : Ok Z EL a0 l own nm bytes ml ret R K) {cd : ClassFile.Cond} (hd : decode bytes pc = .ok (.ifCond cd o, 3)) (ho : 0 ≤ (pc : Int) + o) (hp : ((pc : Int) + o).toNat = pc')
    (kY : if_icmp.holds cd x 0 = true → Run Z EL nI K Q W h cl sl pc' L rest) (kN : if_icmp.holds cd x 0 = false → Run Z EL nI K Q W h cl sl (pc + 3) L rest) : Run Z EL nI K Q W h cl sl pc L (.int x :: rest) := by
  obtain ⟨hx, rfl, rfl, rfl, rfl, -⟩ := id hK
  cases hc : if_icmp.holds cd x 0
  · exact Run.step hK (fun T X t st => XS.ifNo X hx rfl hd rfl (by rw [if0]; exact hc) st) (kN hc)
  · exact Run.step hK (fun T X t st => XS.ifYes X hx rfl (pc0 := pc) rfl hd rfl (by rw [if0]; exact hc) ho hp st) (kY hc)
theorem h_eq (x y : Int32) : (if_icmp.holds .eq x y = true → x = y) ∧ (if_icmp.holds .eq x y = false → ¬ x = y) := by
  by_cases q : x = y
  · refine ⟨fun _ => q, fun z => ?_⟩; rw [(teq q).1] at z; cases z
  · refine ⟨fun z => ?_, fun _ => q⟩; rw [(feq q).1] at z; cases z
theorem h_ne (x y : Int32) : (if_icmp.holds .ne x y = true → ¬ x = y) ∧ (if_icmp.holds .ne x y = false → x = y) := by
  by_cases q : x = y
  · refine ⟨fun z => ?_, fun _ => q⟩; rw [(teq q).2] at z; cases z
  · refine ⟨fun _ => q, fun z => ?_⟩; rw [(feq q).2] at z; cases z
theorem h_lt (x y : Int32) : (if_icmp.holds .lt x y = true → x < y) ∧ (if_icmp.holds .lt x y = false → ¬ x < y) := by
  by_cases q : x < y
  · refine ⟨fun _ => q, fun z => ?_⟩; rw [(tlt q).1] at z; cases z
  · refine ⟨fun z => ?_, fun _ => q⟩; rw [(flt q).1] at z; cases z
theorem h_ge (x y : Int32) : (if_icmp.holds .ge x y = true → ¬ x < y) ∧ (if_icmp.holds .ge x y = false → x < y) := by
  by_cases q : x < y
  · refine ⟨fun z => ?_, fun _ => q⟩; rw [(tlt q).2.1] at z; cases z
  · refine ⟨fun _ => q, fun z => ?_⟩; rw [(flt q).2.1] at z; cases z
theorem h_gt (x y : Int32) : (if_icmp.holds .gt x y = true → y < x) ∧ (if_icmp.holds .gt x y = false → ¬ y < x) := by
  by_cases q : y < x
  · refine ⟨fun _ => q, fun z => ?_⟩; rw [(tlt q).2.2.1] at z; cases z
  · refine ⟨fun z => ?_, fun _ => q⟩; rw [(flt q).2.2.1] at z; cases z
theorem h_le (x y : Int32) : (if_icmp.holds .le x y = true → ¬ y < x) ∧ (if_icmp.holds .le x y = false → y < x) := by
  by_cases q : y < x
  · refine ⟨fun z => ?_, fun _ => q⟩; rw [(tlt q).2.2.2] at z; cases z
  · refine ⟨fun _ => q, fun z => ?_⟩; rw [(flt q).2.2.2] at z; cases z
theorem Run.ifn (hK : Ok Z EL a0 l own nm bytes ml ret R K) (hd : decode bytes pc = .ok (.ifnull o, 3)) (ho : 0 ≤ (pc : Int) + o) (hp : ((pc : Int) + o).toNat = pc') (k : Run Z EL nI K Q W h cl sl pc' L rest) : Run Z EL nI K Q W h cl sl pc L (.null :: rest) := by
  obtain ⟨hx, rfl, rfl, rfl, rfl, -⟩ := id hK
  exact Run.step hK (fun T X t st => XS.ifnullYes X hx rfl (pc0 := pc) rfl hd rfl ho hp st) k
theorem Run.ifr (hK : Ok Z EL a0 l own nm bytes ml ret R K) (hd : decode bytes pc = .ok (.ifnull o, 3)) (k : Run Z EL nI K Q W h cl sl (pc + 3) L rest) : Run Z EL nI K Q W h cl sl pc L (.ref a :: rest) := by
  obtain ⟨hx, rfl, rfl, rfl, rfl, -⟩ := id hK
  exact Run.step hK (fun T X t st => XS.ifnullNo X hx rfl hd rfl st) k
theorem Run.ifnnr (hK : Ok Z EL a0 l own nm bytes ml ret R K) (hd : decode bytes pc = .ok (.ifnonnull o, 3)) (ho : 0 ≤ (pc : Int) + o) (hp : ((pc : Int) + o).toNat = pc') (k : Run Z EL nI K Q W h cl sl pc' L rest) : Run Z EL nI K Q W h cl sl pc L (.ref a :: rest) := by
  obtain ⟨hx, rfl, rfl, rfl, rfl, -⟩ := id hK
  exact Run.step hK (fun T X t st => XT.ifnonnullYes X hx rfl (pc0 := pc) rfl hd rfl ho hp st) k
theorem Run.ifnnn (hK : Ok Z EL a0 l own nm bytes ml ret R K) (hd : decode bytes pc = .ok (.ifnonnull o, 3)) (k : Run Z EL nI K Q W h cl sl (pc + 3) L rest) : Run Z EL nI K Q W h cl sl pc L (.null :: rest) := by
  obtain ⟨hx, rfl, rfl, rfl, rfl, -⟩ := id hK
  exact Run.step hK (fun T X t st => XT.ifnonnullNo X hx rfl hd rfl st) k
theorem Run.cast (hK : Ok Z EL a0 l own nm bytes ml ret R K) {Kc : String} {index : Nat} (w : (Jvm.Cond.classLink own index Kc).before a0 Z = true) (F : Ins Z h a Kc true) (hd : decode bytes pc = .ok (.checkcast index, 3)) (k : Run Z EL nI K Q W h cl sl (pc + 3) L (.ref a :: rest)) : Run Z EL nI K Q W h cl sl pc L (.ref a :: rest) := by
  obtain ⟨hx, rfl, rfl, rfl, rfl, -⟩ := id hK
  refine Run.same hK (fun T vm0 locs X hZ hown e => ?_) k
  exact castY X hx hZ hown w e F (g := mkF K.m pc L (.ref a :: rest)) rfl rfl hd
theorem Run.castn (hK : Ok Z EL a0 l own nm bytes ml ret R K) {index : Nat} (hd : decode bytes pc = .ok (.checkcast index, 3)) (k : Run Z EL nI K Q W h cl sl (pc + 3) L (.null :: rest)) : Run Z EL nI K Q W h cl sl pc L (.null :: rest) := by
  obtain ⟨hx, rfl, rfl, rfl, rfl, -⟩ := id hK
  refine Run.same hK (fun T vm0 locs X hZ hown e => ⟨T, X, e, ?_⟩) k
  exact X.checkcastNull hx (g := mkF K.m pc L (.null :: rest)) rfl rfl hd
theorem Run.instY (hK : Ok Z EL a0 l own nm bytes ml ret R K) {Kc : String} {index : Nat} (w : (Jvm.Cond.classLink own index Kc).before a0 Z = true) (F : Ins Z h a Kc true) (hd : decode bytes pc = .ok (.instanceof index, 3)) (k : Run Z EL nI K Q W h cl sl (pc + 3) L (.int 1 :: rest)) : Run Z EL nI K Q W h cl sl pc L (.ref a :: rest) := by
  obtain ⟨hx, rfl, rfl, rfl, rfl, -⟩ := id hK
  refine Run.same hK (fun T vm0 locs X hZ hown e => ?_) k
  exact Jvm.RoadKit.instY X hx hZ hown w e F (g := mkF K.m pc L (.ref a :: rest)) rfl rfl hd
theorem Run.instN (hK : Ok Z EL a0 l own nm bytes ml ret R K) {Kc C : String} {index : Nat} (w : (Jvm.Cond.classLink own index Kc).before a0 Z = true) (F : Ins Z h a Kc false) (E : Exa Z h a C) (hd : decode bytes pc = .ok (.instanceof index, 3)) (k : Run Z EL nI K Q W h cl sl (pc + 3) L (.int 0 :: rest)) : Run Z EL nI K Q W h cl sl pc L (.ref a :: rest) := by
  obtain ⟨hx, rfl, rfl, rfl, rfl, -⟩ := id hK
  refine Run.same hK (fun T vm0 locs X hZ hown e => ?_) k
  obtain ⟨cell, cT, h1, h2, h3⟩ := F
  obtain ⟨cell', kc, e1, -, e3, e4, -⟩ := E
  cases h1.symm.trans e1
  obtain ⟨k', q, -⟩ := hZ.alike.2.2 _ _ e3
  obtain ⟨vm', X', st⟩ := Jvm.Sym.instanceofNoAt X hx hown (mvT hZ w) (by rw [e]; exact h1) e4 q (by rw [hZ.alike.findClass]; exact h2) (by rw [hZ.alike.assignable]; simpa [e4] using h3) (g := mkF K.m pc L (.ref a :: rest)) rfl rfl hd
  exact ⟨_, X', e, st⟩
theorem Run.instNull (hK : Ok Z EL a0 l own nm bytes ml ret R K) {index : Nat} (hd : decode bytes pc = .ok (.instanceof index, 3)) (k : Run Z EL nI K Q W h cl sl (pc + 3) L (.int 0 :: rest)) : Run Z EL nI K Q W h cl sl pc L (.null :: rest) := by
  obtain ⟨hx, rfl, rfl, rfl, rfl, -⟩ := id hK
  refine Run.same hK (fun T vm0 locs X hZ hown e => ⟨T, X, e, ?_⟩) k
  exact X.instanceofNull hx (g := mkF K.m pc L (.null :: rest)) rfl rfl hd
/-- if_acmp: same: whether the two are one -/
theorem Run.acmp (hK : Ok Z EL a0 l own nm bytes ml ret R K) {cd : ACond} {u v : Value} (h1 : u.isRef = true) (h2 : v.isRef = true) {same : Bool} (hq : decide (u = v) = same) (hd : decode bytes pc = .ok (.if_acmp cd o, 3)) (ho : 0 ≤ (pc : Int) + o) (hp : pc' = if acV cd same = true then ((pc : Int) + o).toNat else pc + 3)
    (k : Run Z EL nI K Q W h cl sl pc' L rest) : Run Z EL nI K Q W h cl sl pc L (v :: u :: rest) := by
  obtain ⟨hx, rfl, rfl, rfl, rfl, -⟩ := id hK
  refine Run.same hK (fun T vm0 locs X hZ hown e => ⟨T, X, e, fun t st => ?_⟩) k
  exact Jvm.RoadKit.acmp X hx (g := mkF K.m pc L (v :: u :: rest)) rfl h1 h2 (pc0 := pc) rfl hd rfl hq ho hp st
theorem Run.irem (hK : Ok Z EL a0 l own nm bytes ml ret R K) (hd : decode bytes pc = .ok (.irem, 1)) (hy : y ≠ 0) (k : Run Z EL nI K Q W h cl sl (pc + 1) L (.int (x % y) :: rest)) : Run Z EL nI K Q W h cl sl pc L (.int y :: .int x :: rest) := by
  obtain ⟨hx, rfl, rfl, rfl, rfl, -⟩ := id hK
  refine Run.same hK (fun T vm0 locs X hZ hown e => ⟨T, X, e, fun t st => ?_⟩) k
  exact iremM X hx (g := mkF K.m pc L (.int y :: .int x :: rest)) rfl hd rfl hy st
end Branches
end Jvm.OwnK
namespace Jvm.OwnK
open Sem ClassFile Op Lib Jvm.RoadKit
theorem tI0 : (0 : Int32).toInt = 0 := rfl
theorem c16 {x : Int32} (h0 : ¬ x < 0) (h1 : ¬ (65535 : Int32) < x) : x.toUInt32.toUInt16.toUInt32.toInt32 = x := by
  have q := c_i2c x
  rw [Int32.lt_iff_toInt_lt] at h0 h1
  have e1 : (0 : Int32).toInt = 0 := rfl
  have e2 : (65535 : Int32).toInt = 65535 := rfl
  apply Int32.toInt_inj.mp; omega
theorem lt255 {x : Int32} (h : ¬ (255 : Int32) < x) : ¬ (65535 : Int32) < x := fun q => h (Int32.lt_trans (by decide) q)
/-- a char below 256, as i2c, castore and ireturn leave it -/
theorem nc {x : Int32} (h : ¬ x < 0 ∧ ¬ (255 : Int32) < x) : nar .char x = x := c16 h.1 (lt255 h.2)
theorem nrc {x : Int32} (h : ¬ x < 0 ∧ ¬ (255 : Int32) < x) : narrow .char (.int x) = .int x := by rw [show narrow .char (.int x) = .int x.toUInt32.toUInt16.toUInt32.toInt32 from rfl, c16 h.1 (lt255 h.2)]
theorem m255 (x : Int32) : ¬ (x &&& 255) < 0 ∧ ¬ (255 : Int32) < (x &&& 255) := by
  have q := c_and x 255 (by decide)
  have e2 : (255 : Int32).toInt = 255 := rfl
  rw [Int32.lt_iff_toInt_lt, Int32.lt_iff_toInt_lt, tI0, e2]; omega
theorem i2c255 (x : Int32) : (x &&& (255 : Int32)).toUInt32.toUInt16.toUInt32.toInt32 = x &&& 255 := c16 (m255 x).1 (lt255 (m255 x).2)
theorem ofN {n : Nat} (h : n ≤ 4000) : (Int32.ofNat n).toInt = n := Int32.toInt_ofNat_small (by omega)
theorem ofN_lt {n : Nat} (h : n ≤ 4000) {k : Int32} {m : Nat} (hk : k.toInt = m) : Int32.ofNat n < k ↔ n < m := by rw [Int32.lt_iff_toInt_lt, ofN h, hk]; omega
theorem ofN_sub {n m : Nat} (h : n ≤ 4000) (hm : m ≤ n) : Int32.ofNat n - Int32.ofNat m = Int32.ofNat (n - m) := by
  apply Int32.toInt_inj.mp
  have q := c_isub (Int32.ofNat n) (Int32.ofNat m)
  have r := rng32 (Int32.ofNat n - Int32.ofNat m)
  rw [ofN h, ofN (by omega)] at q
  rw [ofN (by omega)]; omega
theorem ofN_add {n m : Nat} (h : n + m ≤ 4000) : Int32.ofNat n + Int32.ofNat m = Int32.ofNat (n + m) := by
  apply Int32.toInt_inj.mp
  have q := c_iadd (Int32.ofNat n) (Int32.ofNat m)
  have r := rng32 (Int32.ofNat n + Int32.ofNat m)
  rw [ofN (by omega), ofN (by omega)] at q
  rw [ofN h]; omega
end Jvm.OwnK
namespace Jvm.OwnK
open Sem ClassFile Op Lib Jvm.Free Jvm.RoadKit
section Facts
variable {Z : State} {a0 : Array Value} {h h1 h2 : Heap} {a : Addr} {C K O : String} {n : Nat} {ws : List Addr}
theorem Ext.tr (E : Ext h h1) (F : Ext h1 h2) : Ext h h2 := ⟨Nat.le_trans E.1 F.1, fun x c q => F.2 x c (E.2 x c q)⟩
theorem Ext.rf : Ext h h := ⟨Nat.le_refl _, fun _ _ q => q⟩
theorem ext_keep (E : Ext h h1) (F : Keep h1 h2 ws) (hn : ∀ x ∈ ws, h.size ≤ x) : Ext h h2 := ⟨Nat.le_trans E.1 F.1, fun x c q => F.2.1 x c (E.2 x c q) fun hm => absurd (Array.getElem?_eq_some_iff.mp q).1 (Nat.not_lt.mpr (hn x hm))⟩
theorem ext_wr (E : Ext h h1) {i : Nat} {v : Value} (F : Wr h1 h2 a i v) (hn : h.size ≤ a) : Ext h h2 := ext_keep E (Keep.of_wr F) (fun x hx => by cases List.mem_singleton.mp hx; exact hn)
/-- an object of C is none of K: C's superclass is O, which has none -/
theorem ins_no (w1 : (Jvm.Cond.superclass C O).before a0 Z = true) (w2 : (Jvm.Cond.noSuperclass O).before a0 Z = true) (wi : (Jvm.Cond.instantiable K n).before a0 Z = true) (g1 : C ≠ K) (g2 : O ≠ K) (E : Exa Z h a C) : Ins Z h a K false := by
  obtain ⟨t, kt, t1, t2, t3, t4, -⟩ := Cond.instantiable_spec wi
  obtain ⟨c, h0⟩ := found_sup w1
  obtain ⟨p, k, kp, s1, s2, s3, s4, s5, s6, s7⟩ := Cond.superclass_spec h0 w1
  obtain ⟨p', kp', r1, r2, r3, r4, r5⟩ := Cond.noSuperclass_spec w2
  cases s1.symm.trans r1
  obtain ⟨cell, kc, e1, e2, e3, e4, -⟩ := E
  cases h0.symm.trans e2
  have n1 := ids_ne h0 t1 g1
  have n2 := ids_ne s1 t1 g2
  have n3 : ∀ fuel, Z.vm.isSubclassAux fuel p t = false := fun fuel => by
    cases fuel with
    | zero => rfl
    | succ f => simp [Vm.isSubclassAux, n2, r2, r3]
  have n4 : ∀ fuel, Z.vm.isSubclassAux fuel cell.cls t = false := fun fuel => by
    cases fuel with
    | zero => rfl
    | succ f => simp [Vm.isSubclassAux, n1, s2, s4, n3]
  have ti : kt.isInterface = false := by cases q : kt.isInterface <;> simp [q] at t4 ⊢
  refine ⟨cell, t, e1, t1, ?_⟩
  have : Z.vm.assignable cell.cls t = false := by
    show Z.vm.assignableAux (255 + 1) cell.cls t = false
    simp [Vm.assignableAux, n1, s2, t2, s5, t3, ti, Vm.isSubclass, n4]
  rw [this]; simp
theorem and3 (x : Int32) : x &&& 3 = 0 ∨ x &&& 3 = 1 ∨ x &&& 3 = 2 ∨ x &&& 3 = 3 := by
  have q := c_mask x 3 2 (by decide) (by decide)
  have e : ∀ k : Int32, (x &&& 3).toInt = k.toInt → x &&& 3 = k := fun k h => Int32.toInt_inj.mp h
  have h0 := e 0; have h1 := e 1; have h2 := e 2; have h3 := e 3
  have e0 : (0 : Int32).toInt = 0 := rfl
  have e1 : (1 : Int32).toInt = 1 := rfl
  have e2 : (2 : Int32).toInt = 2 := rfl
  have e3 : (3 : Int32).toInt = 3 := rfl
  rw [e0] at h0; rw [e1] at h1; rw [e2] at h2; rw [e3] at h3
  have : x.toInt % ((2 ^ 2 : Nat) : Int) = 0 ∨ x.toInt % ((2 ^ 2 : Nat) : Int) = 1 ∨ x.toInt % ((2 ^ 2 : Nat) : Int) = 2 ∨ x.toInt % ((2 ^ 2 : Nat) : Int) = 3 := by omega
  rcases this with z | z | z | z
  · exact Or.inl (h0 (q.trans z))
  · exact Or.inr (Or.inl (h1 (q.trans z)))
  · exact Or.inr (Or.inr (Or.inl (h2 (q.trans z))))
  · exact Or.inr (Or.inr (Or.inr (h3 (q.trans z))))
end Facts
end Jvm.OwnK
namespace Jvm.OwnK
open Sem ClassFile Op Lib Jvm.RoadKit
theorem getD_mapI (cs : List Int32) (i : Nat) : (cs.map Value.int).getD i (.int 0) = .int (cs.getD i 0) := by
  simp only [List.getD_eq_getElem?_getD, List.getElem?_map]
  cases cs[i]? <;> rfl
theorem set_map (cs : List Int32) (i n : Nat) (c : Int32) (hn : n = cs.length) : setv (cs.map Value.int) n i (.int 0) (.int c) = (cs.set i c).map Value.int := by
  unfold setv; simp [hn, List.map_set]
theorem set_eq {cs : List Int32} {i : Nat} {c : Int32} (hi : i < cs.length) : cs.set i c = cs ↔ c = cs.getD i 0 := by
  constructor
  · intro h
    have q : (cs.set i c).getD i 0 = cs.getD i 0 := by rw [h]
    simpa [List.getD_eq_getElem?_getD, hi] using q
  · rintro rfl
    refine List.ext_getElem (by simp) fun j h1 h2 => ?_
    rw [List.getElem_set]
    split
    · rename_i e; subst e; simp [List.getD_eq_getElem?_getD, hi]
    · rfl
theorem ofN_nat {n : Nat} (h : n ≤ 4000) : (Int32.ofNat n).toNatClampNeg = n := by
  have := ofN h
  simp only [Int32.toNatClampNeg, this]; omega
theorem ofN_nn {n : Nat} (h : n ≤ 4000) : ¬ Int32.ofNat n < 0 := by rw [Int32.lt_iff_toInt_lt, ofN h, tI0]; omega
end Jvm.OwnK
/- laws to paste: Road.backV, Road.eqW, Road.codOf (cut by pick.py; bodies as the Statement names them) -/
namespace Jvm.Pilot.@@N@@
namespace StrChars
open Jvm Sem ClassFile Op Lib Jvm.Stand Jvm.Free.XT Jvm.Free.ALB Jvm.Free.JM Jvm.Free
open Jvm.Lib.Cold (StaticIs)
/-- a char array whose places are chars -/
def Ch (a : Addr) (A : Cell) (U : State) : Prop := Arr .char a A U ∧ Typed .char A
theorem Ch.mv {a : Addr} {A : Cell} {U U' : State} (h : Ch a A U) (hal : U.vm.Alike U'.vm) (hh : U'.heap = U.heap) : Ch a A U' := ⟨h.1.mv hal hh, h.2⟩
theorem Ch.keep {a : Addr} {A : Cell} {U U' : State} (h : Ch a A U) (hal : U.vm.Alike U'.vm) (hk : U'.heap[a]? = some A) : Ch a A U' := ⟨h.1.keep hal hk, h.2⟩
/-- what place i of a char[]'s cell holds -/
def cv (A : Cell) (i : Nat) : Int32 := match A.slots[i]? with | some (.int x) => x | _ => 0
theorem Ch.get {a : Addr} {A : Cell} {U : State} (h : Ch a A U) {i : Nat} (hi : i < A.slots.size) : A.slots[i]? = some (.int (cv A i)) := by
  have e := Array.getElem?_eq_getElem hi
  have f := h.2 i _ e
  unfold cv; rw [e]
  generalize A.slots[i] = v at f
  cases v <;> simp [fits] at f ⊢
/-- the byte that i2b leaves of a char -/
def lo8 (x : Int32) : Int32 := x.toInt8.toInt32
theorem fits_lo8 (y : Int32) : fits .byte (.int (lo8 y)) = true := by
  have h1 := y.toInt8.le_toInt
  have h2 := y.toInt8.toInt_lt
  simp only [lo8, fits, Bool.and_eq_true, decide_eq_true_eq, Int32.le_iff_toInt_le, Int8.toInt_toInt32, show (-128 : Int32).toInt = -128 from by decide, show (127 : Int32).toInt = 127 from by decide]
  omega
/-- A' is A but that each place j of lo .. hi - 1 holds f j -/
def Laid (A A' : Cell) (lo hi : Nat) (f : Nat → Value) : Prop := A'.cls = A.cls ∧ A'.vm = A.vm ∧ A'.slots.size = A.slots.size ∧ ∀ i, A'.slots[i]? = if lo ≤ i ∧ i < hi then some (f i) else A.slots[i]?
theorem Laid.zero (A : Cell) (lo : Nat) (f : Nat → Value) : Laid A A lo (lo + 0) f := ⟨rfl, rfl, rfl, fun i => by rw [if_neg (by omega)]⟩
theorem Laid.step {A Ak : Cell} {lo k : Nat} {f : Nat → Value} {v : Value} (h : Laid A Ak lo k f) (hlo : lo ≤ k) (hk : k < Ak.slots.size) (hv : v = f k) : Laid A (Ak.setSlot k v) lo (k + 1) f := by
  refine ⟨h.1, h.2.1, by simpa [Cell.setSlot] using h.2.2.1, fun i => ?_⟩
  by_cases e : k = i
  · subst e; rw [Cell.slots_setSlot_self v hk, if_pos (by omega), hv]
  · rw [Cell.slots_setSlot_ne v e, h.2.2.2 i]
    by_cases q : lo ≤ i ∧ i < k
    · rw [if_pos q, if_pos (by omega)]
    · rw [if_neg q, if_neg (by omega)]
def U16 : String := "java/lang/StringUTF16"
namespace Cmp5
def yN : MethodName := ⟨"java/lang/StringUTF16", "compress", "([CI[BII)I"⟩
abbrev yB : ByteArray := jdk_52_method_21_code
theorem d0 : decode yB 0 = .ok (.iconst 0, 1) := by decide +kernel
theorem d1 : decode yB 1 = .ok (.istore 5, 2) := by decide +kernel
theorem d3 : decode yB 3 = .ok (.iload 5, 2) := by decide +kernel
theorem d5 : decode yB 5 = .ok (.iload 4, 2) := by decide +kernel
theorem d7 : decode yB 7 = .ok (.if_icmp (.ge) 37, 3) := by decide +kernel
theorem d10 : decode yB 10 = .ok (.aload_n 0, 1) := by decide +kernel
theorem d11 : decode yB 11 = .ok (.iload_n 1, 1) := by decide +kernel
theorem d12 : decode yB 12 = .ok (.caload, 1) := by decide +kernel
theorem d13 : decode yB 13 = .ok (.istore 6, 2) := by decide +kernel
theorem d15 : decode yB 15 = .ok (.iload 6, 2) := by decide +kernel
theorem d17 : decode yB 17 = .ok (.sipush 255, 3) := by decide +kernel
theorem d20 : decode yB 20 = .ok (.if_icmp (.le) 6, 3) := by decide +kernel
theorem d26 : decode yB 26 = .ok (.aload_n 2, 1) := by decide +kernel
theorem d27 : decode yB 27 = .ok (.iload_n 3, 1) := by decide +kernel
theorem d28 : decode yB 28 = .ok (.iload 6, 2) := by decide +kernel
theorem d30 : decode yB 30 = .ok (.i2b, 1) := by decide +kernel
theorem d31 : decode yB 31 = .ok (.bastore, 1) := by decide +kernel
theorem d32 : decode yB 32 = .ok (.iinc 1 1, 3) := by decide +kernel
theorem d35 : decode yB 35 = .ok (.iinc 3 1, 3) := by decide +kernel
theorem d38 : decode yB 38 = .ok (.iinc 5 1, 3) := by decide +kernel
theorem d41 : decode yB 41 = .ok (.goto (-38), 3) := by decide +kernel
theorem d44 : decode yB 44 = .ok (.iload 4, 2) := by decide +kernel
theorem d46 : decode yB 46 = .ok (.ireturn, 1) := by decide +kernel
def site : List Cond := []
def tab : Cond := tabOf yN yB 7 (some .int) site
def P (b : Addr) (A : Cell) (d : Addr) (B : Cell) (o q len : Nat) (args : Array Value) (s : State) : Prop := args = #[.ref b, .int (Int32.ofNat o), .ref d, .int (Int32.ofNat q), .int (Int32.ofNat len)] ∧ Ch b A s ∧ Arr .byte d B s ∧ b ≠ d ∧ o + len ≤ A.slots.size ∧ q + len ≤ B.slots.size ∧ ∀ i, i < len → ¬ 255 < cv A (o + i)
def E (b : Addr) (A : Cell) (d : Addr) (B : Cell) (o q len : Nat) (r : Option Value) (s u : State) : Prop := r = some (.int (Int32.ofNat len)) ∧ ∃ B', Put d B' s u ∧ Laid B B' q (q + len) (fun j => Value.int (lo8 (cv A (o + (j - q)))))
/-- no char of the range above 255: len; the places written hold each char's low byte -/
theorem law (l : Launch) (b : Addr) (A : Cell) (d : Addr) (B : Cell) (o q len : Nat) : Law l yN 5 5 0 0 yB 7 (some .int) site (P b A d B o q len) (E b A d B o q len) (copyLocs d q len) 0 0 := by
  refine Law.of_walk (plainFor_of_name (by decide +kernel)) (by decide +kernel) (by decide +kernel) (by decide) (fun _ _ h => by rw [h.1]; rfl) (fun _ U U' hal hh h => ⟨h.1, h.2.1.mv hal hh, h.2.2.1.mv hal hh, h.2.2.2⟩) (fun r U U' V V' h1 hal h2 h => ⟨h.1, h.2.elim fun B' q => ⟨B', q.1.mv h1 h2, q.2⟩⟩) ?_
  intro p e s m args below meth c s₁ X0 hexec hbytes hml hret hlk hnm hown hh0 W hP
  obtain ⟨rfl, hA, hB, hne, l1, l2, hp⟩ := hP
  have c1 : Steps p.tables e below (s₁.setTop (entryFrame m #[.ref b, .int (Int32.ofNat o), .ref d, .int (Int32.ofNat q), .int (Int32.ofNat len)] 7)) (s₁.setTop (mkF m 0 #[.val (.ref b), .val (.int (Int32.ofNat o)), .val (.ref d), .val (.int (Int32.ofNat q)), .val (.int (Int32.ofNat len)), .unset, .unset] [])) := entry rfl
  have hA0 := hA.1.mv X0.warmed.alike hh0
  have hB0 := hB.mv X0.warmed.alike hh0
  have a31 := hA.1.2.2.2
  have c2 : Steps p.tables e below (s₁.setTop (entryFrame m #[.ref b, .int (Int32.ofNat o), .ref d, .int (Int32.ofNat q), .int (Int32.ofNat len)] 7)) (s₁.setTop (mkF m 3 #[.val (.ref b), .val (.int (Int32.ofNat o)), .val (.ref d), .val (.int (Int32.ofNat q)), .val (.int (Int32.ofNat len)), .val (.int 0), .unset] [])) := c1.trans (by
    refine iconstV X0.here hexec rfl 0 (hb hbytes d0) (by decide) ?_
    refine XS.istore X0.here hexec rfl (hb hbytes d1) rfl rfl ?_
    exact Steps.refl _)
  have loop : ∀ (r i : Nat), i + r = len → ∀ (z : Slot), (z = .unset ∨ ∃ w, z = .val w ∧ w.category = 1) → ∀ (Tl : State) (Bk : Cell), Stand p l e { frames := 0, locals := 0, cells := 0, slots := 0 } s m #[.ref b, .int (Int32.ofNat o), .ref d, .int (Int32.ofNat q), .int (Int32.ofNat len)] below meth c Tl ([] ++ copyLocs d q i) 0 0 → Put d Bk s₁ Tl → Laid B Bk q (q + i) (fun j => Value.int (lo8 (cv A (o + (j - q))))) →
      Steps p.tables e below (s₁.setTop (entryFrame m #[.ref b, .int (Int32.ofNat o), .ref d, .int (Int32.ofNat q), .int (Int32.ofNat len)] 7)) (Tl.setTop (mkF m 3 #[.val (.ref b), .val (.int (Int32.ofNat (o + i))), .val (.ref d), .val (.int (Int32.ofNat (q + i))), .val (.int (Int32.ofNat len)), .val (.int (Int32.ofNat i)), z] [])) → ∃ (T' : State) (B' : Cell) (z' : Slot), Stand p l e { frames := 0, locals := 0, cells := 0, slots := 0 } s m #[.ref b, .int (Int32.ofNat o), .ref d, .int (Int32.ofNat q), .int (Int32.ofNat len)] below meth c T' ([] ++ copyLocs d q len) 0 0 ∧ Put d B' s₁ T' ∧ Laid B B' q (q + len) (fun j => Value.int (lo8 (cv A (o + (j - q))))) ∧
      Steps p.tables e below (s₁.setTop (entryFrame m #[.ref b, .int (Int32.ofNat o), .ref d, .int (Int32.ofNat q), .int (Int32.ofNat len)] 7)) (T'.setTop (mkF m 3 #[.val (.ref b), .val (.int (Int32.ofNat (o + len))), .val (.ref d), .val (.int (Int32.ofNat (q + len))), .val (.int (Int32.ofNat len)), .val (.int (Int32.ofNat len)), z'] [])) := by
    intro r
    induction r with
    | zero =>
      intro i hi z hz Tl Bk Xl pl fl cl
      have hil : i = len := by omega
      rw [hil] at Xl fl cl
      exact ⟨Tl, Bk, z, Xl, pl, fl, cl⟩
    | succ r ih =>
      intro i hi z hz Tl Bk Xl pl fl cl
      have all := X0.warmed.alike.symm.trans Xl.warmed.alike
      have hAl := hA0.keep all (pl.other hne hA0.1)
      have hBk := hB0.like all pl.1 fl.1 fl.2.1 fl.2.2.1
      have hlt : q + i < Bk.slots.size := by rw [fl.2.2.1]; omega
      have c3 : Steps p.tables e below (s₁.setTop (entryFrame m #[.ref b, .int (Int32.ofNat o), .ref d, .int (Int32.ofNat q), .int (Int32.ofNat len)] 7)) (Tl.setTop (mkF m 12 #[.val (.ref b), .val (.int (Int32.ofNat (o + i))), .val (.ref d), .val (.int (Int32.ofNat (q + i))), .val (.int (Int32.ofNat len)), .val (.int (Int32.ofNat i)), z] [.int (Int32.ofNat (o + i)), .ref b])) := cl.trans (by
        refine XS.iload Xl.here hexec rfl (hb hbytes d3) rfl ?_
        refine XS.iload Xl.here hexec rfl (hb hbytes d5) rfl ?_
        refine XS.icmpNo Xl.here hexec rfl (hb hbytes d7) rfl (ii_ge_f (lt32 (by omega) (by omega))) ?_
        refine XS.aloadN Xl.here hexec rfl (hb hbytes d10) rfl rfl ?_
        refine XS.iloadN Xl.here hexec rfl (hb hbytes d11) rfl ?_
        exact Steps.refl _)
      have c4 : Steps p.tables e below (s₁.setTop (entryFrame m #[.ref b, .int (Int32.ofNat o), .ref d, .int (Int32.ofNat q), .int (Int32.ofNat len)] 7)) (Tl.setTop (mkF m 13 #[.val (.ref b), .val (.int (Int32.ofNat (o + i))), .val (.ref d), .val (.int (Int32.ofNat (q + i))), .val (.int (Int32.ofNat len)), .val (.int (Int32.ofNat i)), z] [.int (cv A (o + i))])) := c3.trans (by
        refine Xl.aget hexec hAl rfl (hA.get (i := o + i) (by omega)) rfl rfl (hb hbytes d12) ?_
        exact Steps.refl _)
      have c5 : Steps p.tables e below (s₁.setTop (entryFrame m #[.ref b, .int (Int32.ofNat o), .ref d, .int (Int32.ofNat q), .int (Int32.ofNat len)] 7)) (Tl.setTop (mkF m 15 #[.val (.ref b), .val (.int (Int32.ofNat (o + i))), .val (.ref d), .val (.int (Int32.ofNat (q + i))), .val (.int (Int32.ofNat len)), .val (.int (Int32.ofNat i)), .val (.int (cv A (o + i)))] [])) := c4.trans (by
        refine XS.istoreS Xl.here hexec rfl (hb hbytes d13) rfl rfl hz ?_
        exact Steps.refl _)
      have c6 : Steps p.tables e below (s₁.setTop (entryFrame m #[.ref b, .int (Int32.ofNat o), .ref d, .int (Int32.ofNat q), .int (Int32.ofNat len)] 7)) (Tl.setTop (mkF m 31 #[.val (.ref b), .val (.int (Int32.ofNat (o + i))), .val (.ref d), .val (.int (Int32.ofNat (q + i))), .val (.int (Int32.ofNat len)), .val (.int (Int32.ofNat i)), .val (.int (cv A (o + i)))] [.int (lo8 (cv A (o + i))), .int (Int32.ofNat (q + i)), .ref d])) := c5.trans (by
        refine XS.iload Xl.here hexec rfl (hb hbytes d15) rfl ?_
        refine sipushV Xl.here hexec rfl 255 (hb hbytes d17) (by decide) ?_
        refine XS.icmpYes Xl.here hexec rfl (pc0 := 20) rfl (hb hbytes d20) rfl (ii_le_t (hp i (by omega))) (by decide) rfl ?_
        refine XS.aloadN Xl.here hexec rfl (hb hbytes d26) rfl rfl ?_
        refine XS.iloadN Xl.here hexec rfl (hb hbytes d27) rfl ?_
        refine XS.iload Xl.here hexec rfl (hb hbytes d28) rfl ?_
        refine i2b Xl.here hexec rfl (hb hbytes d30) rfl ?_
        exact Steps.refl _)
      obtain ⟨T7, X7, p7, st7⟩ := Xl.aput hexec hBk rfl hlt rfl (fits_lo8 (cv A (o + i))) (g := (mkF m 31 #[.val (.ref b), .val (.int (Int32.ofNat (o + i))), .val (.ref d), .val (.int (Int32.ofNat (q + i))), .val (.int (Int32.ofNat len)), .val (.int (Int32.ofNat i)), .val (.int (cv A (o + i)))] [.int (lo8 (cv A (o + i))), .int (Int32.ofNat (q + i)), .ref d])) rfl (rest := []) rfl (hb hbytes d31)
      have c8 : Steps p.tables e below (s₁.setTop (entryFrame m #[.ref b, .int (Int32.ofNat o), .ref d, .int (Int32.ofNat q), .int (Int32.ofNat len)] 7)) (T7.setTop (mkF m 32 #[.val (.ref b), .val (.int (Int32.ofNat (o + i))), .val (.ref d), .val (.int (Int32.ofNat (q + i))), .val (.int (Int32.ofNat len)), .val (.int (Int32.ofNat i)), .val (.int (cv A (o + i)))] [])) := c6.trans (st7 _ (Steps.refl _))
      have c9 : Steps p.tables e below (s₁.setTop (entryFrame m #[.ref b, .int (Int32.ofNat o), .ref d, .int (Int32.ofNat q), .int (Int32.ofNat len)] 7)) (T7.setTop (mkF m 3 #[.val (.ref b), .val (.int (Int32.ofNat (o + i) + 1)), .val (.ref d), .val (.int (Int32.ofNat (q + i) + 1)), .val (.int (Int32.ofNat len)), .val (.int (Int32.ofNat i + 1)), .val (.int (cv A (o + i)))] [])) := c8.trans (by
        refine iincV X7.here hexec rfl 1 (hb hbytes d32) (by decide) rfl rfl ?_
        refine iincV X7.here hexec rfl 1 (hb hbytes d35) (by decide) rfl rfl ?_
        refine iincV X7.here hexec rfl 1 (hb hbytes d38) (by decide) rfl rfl ?_
        refine XS.goto X7.here hexec rfl (pc0 := 41) rfl (hb hbytes d41) (by decide) rfl ?_
        exact Steps.refl _)
      have c10 : Steps p.tables e below (s₁.setTop (entryFrame m #[.ref b, .int (Int32.ofNat o), .ref d, .int (Int32.ofNat q), .int (Int32.ofNat len)] 7)) (T7.setTop (mkF m 3 #[.val (.ref b), .val (.int (Int32.ofNat (o + (i + 1)))), .val (.ref d), .val (.int (Int32.ofNat (q + (i + 1)))), .val (.int (Int32.ofNat len)), .val (.int (Int32.ofNat (i + 1))), .val (.int (cv A (o + i)))] [])) := by
        have := c9
        rw [succ32, succ32, succ32] at this
        exact this
      exact ih (i + 1) (by omega) _ (Or.inr ⟨_, rfl, rfl⟩) T7 _ (by rw [copyLocs_step, ← List.append_assoc]; exact X7) (pl.trans p7) (fl.step (by omega) hlt (by simp)) c10
  obtain ⟨T9, B9, z9, X9, p9, f9, g9⟩ := loop len 0 (by omega) .unset (Or.inl rfl) s₁ B (by simpa [copyLocs] using X0) ⟨hB0.1, fun _ _ => rfl, rfl⟩ (Laid.zero _ _ _) c2
  have c11 : Steps p.tables e below (s₁.setTop (entryFrame m #[.ref b, .int (Int32.ofNat o), .ref d, .int (Int32.ofNat q), .int (Int32.ofNat len)] 7)) (T9.setTop (mkF m 46 #[.val (.ref b), .val (.int (Int32.ofNat (o + len))), .val (.ref d), .val (.int (Int32.ofNat (q + len))), .val (.int (Int32.ofNat len)), .val (.int (Int32.ofNat len)), z9] [.int (Int32.ofNat len)])) := g9.trans (by
    refine XS.iload X9.here hexec rfl (hb hbytes d3) rfl ?_
    refine XS.iload X9.here hexec rfl (hb hbytes d5) rfl ?_
    refine XS.icmpYes X9.here hexec rfl (pc0 := 7) rfl (hb hbytes d7) rfl (ii_ge_t (nlt32 (by omega) (Nat.le_refl _))) (by decide) rfl ?_
    refine XS.iload X9.here hexec rfl (hb hbytes d44) rfl ?_
    exact Steps.refl _)
  exact ⟨T9, some (.int (Int32.ofNat len)), _, _, _, X9, by simp, rfl, rfl, (fun h => by cases h), ⟨rfl, B9, p9.from hh0, f9⟩, fun fs hl => c11.trans (X9.ireturnOut hexec hret rfl (Or.inl rfl) (hb hbytes d46) hl)⟩
end Cmp5
namespace Cmp3
def yN : MethodName := ⟨"java/lang/StringUTF16", "compress", "([CII)[B"⟩
abbrev yB : ByteArray := jdk_52_method_16_code
theorem d0 : decode yB 0 = .ok (.iload_n 2, 1) := by decide +kernel
theorem d1 : decode yB 1 = .ok (.newarray .byte, 2) := by decide +kernel
theorem d3 : decode yB 3 = .ok (.astore_n 3, 1) := by decide +kernel
theorem d4 : decode yB 4 = .ok (.aload_n 0, 1) := by decide +kernel
theorem d5 : decode yB 5 = .ok (.iload_n 1, 1) := by decide +kernel
theorem d6 : decode yB 6 = .ok (.aload_n 3, 1) := by decide +kernel
theorem d7 : decode yB 7 = .ok (.iconst 0, 1) := by decide +kernel
theorem d8 : decode yB 8 = .ok (.iload_n 2, 1) := by decide +kernel
theorem d9 : decode yB 9 = .ok (.invokestatic 115, 3) := by decide +kernel
theorem d12 : decode yB 12 = .ok (.istore 4, 2) := by decide +kernel
theorem d14 : decode yB 14 = .ok (.iload 4, 2) := by decide +kernel
theorem d16 : decode yB 16 = .ok (.iload_n 2, 1) := by decide +kernel
theorem d17 : decode yB 17 = .ok (.if_icmp (.eq) 40, 3) := by decide +kernel
theorem d57 : decode yB 57 = .ok (.aload_n 3, 1) := by decide +kernel
theorem d58 : decode yB 58 = .ok (.areturn, 1) := by decide +kernel
def site : List Cond := [.arrayClass .byte, Cmp5.tab] ++ staticW U16 115 Cmp5.yN
def tab : Cond := tabOf yN yB 6 (some (.array .byte)) site
def P (b : Addr) (A : Cell) (o len : Nat) (args : Array Value) (s : State) : Prop := args = #[.ref b, .int (Int32.ofNat o), .int (Int32.ofNat len)] ∧ Ch b A s ∧ o + len ≤ A.slots.size ∧ len ≤ 536870912 ∧ ∀ i, i < len → ¬ 255 < cv A (o + i)
def E (b : Addr) (A : Cell) (o len : Nat) (r : Option Value) (s u : State) : Prop := NewArr .byte "[B" len (fun j => .int (lo8 (cv A (o + j)))) r s u ∧ u.heap.size = s.heap.size + 1
/-- no char of the range above 255: a new byte[] of their low bytes -/
theorem law (l : Launch) (b : Addr) (A : Cell) (o len : Nat) : Law l yN 3 3 1 18 yB 6 (some (.array .byte)) site (P b A o len) (E b A o len) [] 1 len := by
  refine Law.of_walk (plainFor_of_name (by decide +kernel)) (by decide +kernel) (by decide +kernel) (by decide) (fun _ _ h => by rw [h.1]; rfl) (fun _ U U' hal hh h => ⟨h.1, h.2.1.mv hal hh, h.2.2⟩) (fun r U U' V V' h1 hal h2 h => ⟨NewArr.mv r U U' V V' h1 hal h2 h.1, by rw [h1, h2]; exact h.2⟩) ?_
  intro p e s m args below meth c s₁ X0 hexec hbytes hml hret hlk hnm hown hh0 W hP
  obtain ⟨rfl, hA, l1, l2, hp⟩ := hP
  have a31 := hA.1.2.2.2
  have c1 : Steps p.tables e below (s₁.setTop (entryFrame m #[.ref b, .int (Int32.ofNat o), .int (Int32.ofNat len)] 6)) (s₁.setTop (mkF m 0 #[.val (.ref b), .val (.int (Int32.ofNat o)), .val (.int (Int32.ofNat len)), .unset, .unset, .unset] [])) := entry rfl
  have c2 : Steps p.tables e below (s₁.setTop (entryFrame m #[.ref b, .int (Int32.ofNat o), .int (Int32.ofNat len)] 6)) (s₁.setTop (mkF m 1 #[.val (.ref b), .val (.int (Int32.ofNat o)), .val (.int (Int32.ofNat len)), .unset, .unset, .unset] [.int (Int32.ofNat len)])) := c1.trans (by
    refine XS.iloadN X0.here hexec rfl (hb hbytes d0) rfl ?_
    exact Steps.refl _)
  obtain ⟨T3, B3, X3, ba3, bs3, bv3, bh3, bf3, st3⟩ := X0.anew hexec (atype := .byte) (wk W (.arrayClass .byte)) rfl (by show len * 1 ≤ _; omega) (by omega) (g := (mkF m 1 #[.val (.ref b), .val (.int (Int32.ofNat o)), .val (.int (Int32.ofNat len)), .unset, .unset, .unset] [.int (Int32.ofNat len)])) rfl (hb hbytes d1) (rest := []) rfl (Nat.le_refl _) (by show 0 + len ≤ len; omega)
  rw [hh0] at ba3 st3
  have kp3 : XT.Kept s T3 := (XT.Kept.of_eq hh0).push bh3
  have hA3 := hA.keep X3.warmed.alike (kp3 _ _ hA.1.1)
  have hne : b ≠ s.heap.size := hA.1.ne
  have c4 : Steps p.tables e below (s₁.setTop (entryFrame m #[.ref b, .int (Int32.ofNat o), .int (Int32.ofNat len)] 6)) (T3.setTop (mkF m 3 #[.val (.ref b), .val (.int (Int32.ofNat o)), .val (.int (Int32.ofNat len)), .unset, .unset, .unset] [.ref s.heap.size])) := c2.trans (st3 _ (Steps.refl _))
  have c5 : Steps p.tables e below (s₁.setTop (entryFrame m #[.ref b, .int (Int32.ofNat o), .int (Int32.ofNat len)] 6)) (T3.setTop (mkF m 9 #[.val (.ref b), .val (.int (Int32.ofNat o)), .val (.int (Int32.ofNat len)), .val (.ref s.heap.size), .unset, .unset] [.int (Int32.ofNat len), .int 0, .ref s.heap.size, .int (Int32.ofNat o), .ref b])) := c4.trans (by
    refine XS.astoreN X3.here hexec rfl (hb hbytes d3) rfl rfl rfl ?_
    refine XS.aloadN X3.here hexec rfl (hb hbytes d4) rfl rfl ?_
    refine XS.iloadN X3.here hexec rfl (hb hbytes d5) rfl ?_
    refine XS.aloadN X3.here hexec rfl (hb hbytes d6) rfl rfl ?_
    refine iconstV X3.here hexec rfl 0 (hb hbytes d7) (by decide) ?_
    refine XS.iloadN X3.here hexec rfl (hb hbytes d8) rfl ?_
    exact Steps.refl _)
  obtain ⟨v6, T6, X6, E6, g6⟩ := X3.callS hexec (Cmp5.law l b A s.heap.size B3 o 0 len) hown (wks W (staticW U16 115 Cmp5.yN)) (wk W Cmp5.tab) (W := 0) (Nat.le_of_ble_eq_true rfl) (Nat.le_of_ble_eq_true rfl) (Nat.le_refl _) (by show 0 + len + 0 ≤ len; omega) (g := (mkF m 9 #[.val (.ref b), .val (.int (Int32.ofNat o)), .val (.int (Int32.ofNat len)), .val (.ref s.heap.size), .unset, .unset] [.int (Int32.ofNat len), .int (Int32.ofNat 0), .ref s.heap.size, .int (Int32.ofNat o), .ref b])) rfl (by rw [hml]; rfl) c5 (argsL := [.ref b, .int (Int32.ofNat o), .ref s.heap.size, .int (Int32.ofNat 0), .int (Int32.ofNat len)]) (rest := []) rfl rfl (by show 2 * 0 + 0 ≤ _; decide) (hb hbytes d9) (⟨rfl, hA3, ba3, hne, l1, by rw [bs3]; simp, hp⟩)
  obtain ⟨rfl, B6, p6, f6⟩ := E6
  have c7 : Steps p.tables e below (s₁.setTop (entryFrame m #[.ref b, .int (Int32.ofNat o), .int (Int32.ofNat len)] 6)) (T6.setTop (mkF m 12 #[.val (.ref b), .val (.int (Int32.ofNat o)), .val (.int (Int32.ofNat len)), .val (.ref s.heap.size), .unset, .unset] [.int (Int32.ofNat len)])) := g6
  have c8 : Steps p.tables e below (s₁.setTop (entryFrame m #[.ref b, .int (Int32.ofNat o), .int (Int32.ofNat len)] 6)) (T6.setTop (mkF m 58 #[.val (.ref b), .val (.int (Int32.ofNat o)), .val (.int (Int32.ofNat len)), .val (.ref s.heap.size), .val (.int (Int32.ofNat len)), .unset] [.ref s.heap.size])) := c7.trans (by
    refine XS.istore X6.here hexec rfl (hb hbytes d12) rfl rfl ?_
    refine XS.iload X6.here hexec rfl (hb hbytes d14) rfl ?_
    refine XS.iloadN X6.here hexec rfl (hb hbytes d16) rfl ?_
    refine XS.icmpYes X6.here hexec rfl (pc0 := 17) rfl (hb hbytes d17) rfl (ii_eq_t rfl) (by decide) rfl ?_
    refine XS.aloadN X6.here hexec rfl (hb hbytes d57) rfl rfl ?_
    exact Steps.refl _)
  have X8 := X6.wide (L' := []) (cells' := 1) (slots' := len) (fun x hx hlt => by
    simp only [List.nil_append, copyLocs, List.mem_map, List.mem_range] at hx
    obtain ⟨i, -, rfl⟩ := hx
    exact absurd hlt (Nat.lt_irrefl _)) (Nat.le_refl _) (by omega)
  exact ⟨T6, some (.ref s.heap.size), _, _, _, X8, rfl, rfl, rfl, (fun h => by cases h), ⟨⟨rfl, B6, ba3.like (X3.warmed.alike.symm.trans X6.warmed.alike) p6.1 f6.1 f6.2.1 f6.2.2.1, f6.2.1.trans bv3, by rw [X6.warmed.alike.findClass, f6.1]; exact bf3, by rw [f6.2.2.1, bs3]; simp, fun j hj => by rw [f6.2.2.2 j, if_pos (by omega)]; rfl, kp3.put p6 (Nat.le_refl _)⟩, by rw [p6.2.2, bh3, hh0]; simp⟩, fun fs hl => c8.trans (X8.areturnOut hexec rfl hret rfl (hb hbytes d58) hl)⟩
end Cmp3
namespace CodL
def yN : MethodName := ⟨"java/lang/StringUTF16", "coderFromArrayLen", "([BI)B"⟩
abbrev yB : ByteArray := jdk_52_method_15_code
theorem d0 : decode yB 0 = .ok (.iload_n 1, 1) := by decide +kernel
theorem d1 : decode yB 1 = .ok (.aload_n 0, 1) := by decide +kernel
theorem d2 : decode yB 2 = .ok (.arraylength, 1) := by decide +kernel
theorem d3 : decode yB 3 = .ok (.isub, 1) := by decide +kernel
theorem d4 : decode yB 4 = .ok (.bipush 31, 2) := by decide +kernel
theorem d6 : decode yB 6 = .ok (.iushr, 1) := by decide +kernel
theorem d7 : decode yB 7 = .ok (.i2b, 1) := by decide +kernel
theorem d8 : decode yB 8 = .ok (.ireturn, 1) := by decide +kernel
def site : List Cond := []
def tab : Cond := tabOf yN yB 2 (some .byte) site
def P (d : Addr) (B : Cell) (args : Array Value) (s : State) : Prop := args = #[.ref d, .int (Int32.ofNat B.slots.size)] ∧ Arr .byte d B s
def E (r : Option Value) (s u : State) : Prop := XT.PureE (some (.int 0)) r s u
/-- an array as long as the number of chars: LATIN1 -/
theorem law (l : Launch) (d : Addr) (B : Cell) : Law l yN 2 2 0 0 yB 2 (some .byte) site (P d B) E [] 0 0 := by
  refine Law.of_walk (plainFor_of_name (by decide +kernel)) (by decide +kernel) (by decide +kernel) (by decide) (fun _ _ h => by rw [h.1]; rfl) (fun _ U U' hal hh h => ⟨h.1, h.2.mv hal hh⟩) (fun r U U' V V' h1 hal h2 h => XT.PureE.mv r U U' V V' h1 hal h2 h) ?_
  intro p e s m args below meth c s₁ X0 hexec hbytes hml hret hlk hnm hown hh0 W hP
  obtain ⟨rfl, hB⟩ := hP
  have hB0 := hB.mv X0.warmed.alike hh0
  have c1 : Steps p.tables e below (s₁.setTop (entryFrame m #[.ref d, .int (Int32.ofNat B.slots.size)] 2)) (s₁.setTop (mkF m 0 #[.val (.ref d), .val (.int (Int32.ofNat B.slots.size))] [])) := entry rfl
  have c2 : Steps p.tables e below (s₁.setTop (entryFrame m #[.ref d, .int (Int32.ofNat B.slots.size)] 2)) (s₁.setTop (mkF m 2 #[.val (.ref d), .val (.int (Int32.ofNat B.slots.size))] [.ref d, .int (Int32.ofNat B.slots.size)])) := c1.trans (by
    refine XS.iloadN X0.here hexec rfl (hb hbytes d0) rfl ?_
    refine XS.aloadN X0.here hexec rfl (hb hbytes d1) rfl rfl ?_
    exact Steps.refl _)
  have c3 : Steps p.tables e below (s₁.setTop (entryFrame m #[.ref d, .int (Int32.ofNat B.slots.size)] 2)) (s₁.setTop (mkF m 8 #[.val (.ref d), .val (.int (Int32.ofNat B.slots.size))] [.int (lo8 (ushr (Int32.ofNat B.slots.size - Int32.ofNat B.slots.size) 31))])) := c2.trans (by
    refine X0.alen hexec hB0 rfl rfl (hb hbytes d2) ?_
    refine XS.isub X0.here hexec rfl (hb hbytes d3) rfl ?_
    refine bipushV X0.here hexec rfl 31 (hb hbytes d4) (by decide) ?_
    refine iushr X0.here hexec rfl (hb hbytes d6) rfl ?_
    refine i2b X0.here hexec rfl (hb hbytes d7) rfl ?_
    exact Steps.refl _)
  have e0 : lo8 (ushr (Int32.ofNat B.slots.size - Int32.ofNat B.slots.size) 31) = 0 := by rw [Int32.sub_self]; decide
  rw [e0] at c3
  exact ⟨s₁, some (.int 0), _, _, _, X0, rfl, rfl, rfl, (fun h => by cases h), ⟨rfl, hh0⟩, fun fs hl => c3.trans (X0.ireturnOut hexec hret rfl (Or.inr (Or.inr (Or.inl rfl))) (hb hbytes d8) hl)⟩
end CodL
/-- the String at a is Latin-1 over a new byte[] (the heap's one new cell): the low bytes of the len chars of A from o on; every cell but a is kept -/
def Got (a : Addr) (D : Cell) (fV fC : Field) (A : Cell) (o len : Nat) (r : Option Value) (s u : State) : Prop := r = none ∧ ∃ D' V : Cell, Blank "java/lang/String" a D' u ∧ Same D D' [fV.slot, fC.slot] ∧ D'.slots[fV.slot]? = some (.ref s.heap.size) ∧ D'.slots[fC.slot]? = some (.int 0) ∧ Arr .byte s.heap.size V u ∧ V.vm = .none ∧ u.vm.findClass "[B" = some V.cls ∧ V.slots.size = len ∧ (∀ j, j < len → V.slots[j]? = some (.int (lo8 (cv A (o + j))))) ∧ (∀ (y : Addr) (c : Cell), y ≠ a → s.heap[y]? = some c → u.heap[y]? = some c) ∧ u.heap.size = s.heap.size + 1
theorem Got.mv {a : Addr} {D A : Cell} {fV fC : Field} {o len : Nat} : ∀ r (U U' V V' : State), U'.heap = U.heap → V.vm.Alike V'.vm → V'.heap = V.heap → Got a D fV fC A o len r U V → Got a D fV fC A o len r U' V' :=
  fun r U U' V V' h1 hal h2 ⟨e0, D', X, a1, a2, a3, a4, a5, a6, a7, a8, a9, a10, a11⟩ => ⟨e0, D', X, a1.mv hal h2, a2, by rw [h1]; exact a3, a4, by rw [h1]; exact a5.mv hal h2, a6, by rw [hal.findClass]; exact a7, a8, a9, by rw [h1, h2]; exact a10, by rw [h1, h2]; exact a11⟩
namespace New4
def yN : MethodName := ⟨"java/lang/String", "<init>", "([CIILjava/lang/Void;)V"⟩
abbrev yB : ByteArray := jdk_42_method_149_code
theorem d0 : decode yB 0 = .ok (.aload_n 0, 1) := by decide +kernel
theorem d1 : decode yB 1 = .ok (.invokespecial 1, 3) := by decide +kernel
theorem d4 : decode yB 4 = .ok (.iload_n 3, 1) := by decide +kernel
theorem d5 : decode yB 5 = .ok (.ifCond (.ne) 22, 3) := by decide +kernel
theorem d27 : decode yB 27 = .ok (.getstatic 38, 3) := by decide +kernel
theorem d30 : decode yB 30 = .ok (.ifCond (.eq) 28, 3) := by decide +kernel
theorem d33 : decode yB 33 = .ok (.aload_n 1, 1) := by decide +kernel
theorem d34 : decode yB 34 = .ok (.iload_n 2, 1) := by decide +kernel
theorem d35 : decode yB 35 = .ok (.iload_n 3, 1) := by decide +kernel
theorem d36 : decode yB 36 = .ok (.invokestatic 177, 3) := by decide +kernel
theorem d39 : decode yB 39 = .ok (.astore 5, 2) := by decide +kernel
theorem d41 : decode yB 41 = .ok (.aload_n 0, 1) := by decide +kernel
theorem d42 : decode yB 42 = .ok (.aload 5, 2) := by decide +kernel
theorem d44 : decode yB 44 = .ok (.iload_n 3, 1) := by decide +kernel
theorem d45 : decode yB 45 = .ok (.invokestatic 47, 3) := by decide +kernel
theorem d48 : decode yB 48 = .ok (.putfield 15, 3) := by decide +kernel
theorem d51 : decode yB 51 = .ok (.aload_n 0, 1) := by decide +kernel
theorem d52 : decode yB 52 = .ok (.aload 5, 2) := by decide +kernel
theorem d54 : decode yB 54 = .ok (.putfield 9, 3) := by decide +kernel
theorem d57 : decode yB 57 = .ok (.return_, 1) := by decide +kernel
def site : List Cond := [.fieldLink "java/lang/String" 38 "java/lang/String" "COMPACT_STRINGS" "Z", Cmp3.tab, CodL.tab, .laysFinal "java/lang/String" "java/lang/String" "value" "[B", .fieldLink "java/lang/String" 9 "java/lang/String" "value" "[B", .laysFinal "java/lang/String" "java/lang/String" "coder" "B", .fieldLink "java/lang/String" 15 "java/lang/String" "coder" "B"] ++ objW "java/lang/String" 1 ++ staticW "java/lang/String" 177 Cmp3.yN ++ staticW "java/lang/String" 47 CodL.yN
def tab : Cond := tabOf yN yB 6 none site
def P (a : Addr) (D : Cell) (fV fC : Field) (b : Addr) (A : Cell) (z : Int32) (o len : Nat) (args : Array Value) (s : State) : Prop := args = #[.ref a, .ref b, .int (Int32.ofNat o), .int (Int32.ofNat len), .null] ∧ Blank "java/lang/String" a D s ∧ Found "java/lang/String" "value" "[B" fV s ∧ Found "java/lang/String" "coder" "B" fC s ∧ Ch b A s ∧ StaticIs s "java/lang/String" "COMPACT_STRINGS" "Z" (.int z) ∧ ¬ z = 0 ∧ 0 < len ∧ o + len ≤ A.slots.size ∧ len ≤ 536870912 ∧ ∀ i, i < len → ¬ 255 < cv A (o + i)
def E (a : Addr) (D : Cell) (fV fC : Field) (A : Cell) (o len : Nat) (r : Option Value) (s u : State) : Prop := Got a D fV fC A o len r s u
/-- len > 0, no char of the range above 255: a Latin-1 String of their low bytes -/
theorem law (l : Launch) (a : Addr) (D : Cell) (fV fC : Field) (b : Addr) (A : Cell) (z : Int32) (o len : Nat) : Law l yN 5 4 2 35 yB 6 none site (P a D fV fC b A z o len) (E a D fV fC A o len) [⟨a, fC.slot⟩, ⟨a, fV.slot⟩] 1 len := by
  refine Law.of_walk (plainFor_of_name (by decide +kernel)) (by decide +kernel) (by decide +kernel) (by decide) (fun _ _ h => by rw [h.1]; rfl) (fun _ U U' hal hh h => ⟨h.1, h.2.1.mv hal hh, h.2.2.1.al hal, h.2.2.2.1.al hal, h.2.2.2.2.1.mv hal hh, h.2.2.2.2.2.1.there hal hh, h.2.2.2.2.2.2⟩) (fun r U U' V V' h1 hal h2 h => Got.mv r U U' V V' h1 hal h2 h) ?_
  intro p e s m args below meth c s₁ X0 hexec hbytes hml hret hlk hnm hown hh0 W hP
  obtain ⟨rfl, hB, f1, f2, hA, s1, hz, l0, l1, l2, hp⟩ := hP
  have a31 := hA.1.2.2.2
  have c1 : Steps p.tables e below (s₁.setTop (entryFrame m #[.ref a, .ref b, .int (Int32.ofNat o), .int (Int32.ofNat len), .null] 6)) (s₁.setTop (mkF m 0 #[.val (.ref a), .val (.ref b), .val (.int (Int32.ofNat o)), .val (.int (Int32.ofNat len)), .val .null, .unset] [])) := entry rfl
  have c2 : Steps p.tables e below (s₁.setTop (entryFrame m #[.ref a, .ref b, .int (Int32.ofNat o), .int (Int32.ofNat len), .null] 6)) (s₁.setTop (mkF m 1 #[.val (.ref a), .val (.ref b), .val (.int (Int32.ofNat o)), .val (.int (Int32.ofNat len)), .val .null, .unset] [.ref a])) := c1.trans (by
    refine XS.aloadN X0.here hexec rfl (hb hbytes d0) rfl rfl ?_
    exact Steps.refl _)
  obtain ⟨T3, X3, q3, st3⟩ := X0.oinit hexec hown (wks W (objW "java/lang/String" 1)) (g := (mkF m 1 #[.val (.ref a), .val (.ref b), .val (.int (Int32.ofNat o)), .val (.int (Int32.ofNat len)), .val .null, .unset] [.ref a])) rfl (by rw [hml]; rfl) (rest := []) rfl (hb hbytes d1) (W := 0) (by show 2 * 0 + 0 ≤ _; decide) (Nat.le_of_ble_eq_true rfl) (Nat.le_of_ble_eq_true rfl)
  have hh3 := q3.trans hh0
  have c4 : Steps p.tables e below (s₁.setTop (entryFrame m #[.ref a, .ref b, .int (Int32.ofNat o), .int (Int32.ofNat len), .null] 6)) (T3.setTop (mkF m 27 #[.val (.ref a), .val (.ref b), .val (.int (Int32.ofNat o)), .val (.int (Int32.ofNat len)), .val .null, .unset] [])) := (c2.trans (st3 _ (Steps.refl _))).trans (by
    refine XS.iloadN X3.here hexec rfl (hb hbytes d4) rfl ?_
    refine XS.ifYes X3.here hexec rfl (pc0 := 5) rfl (hb hbytes d5) rfl (i0_ne_t (nz32 (by omega) l0)) (by decide) rfl ?_
    exact Steps.refl _)
  obtain ⟨T5, X5, q5, st5⟩ := X3.sget hexec hown (wk W (.fieldLink "java/lang/String" 38 "java/lang/String" "COMPACT_STRINGS" "Z")) s1 (fun _ _ h => by rw [hh3]; exact h) (g := (mkF m 27 #[.val (.ref a), .val (.ref b), .val (.int (Int32.ofNat o)), .val (.int (Int32.ofNat len)), .val .null, .unset] [])) rfl (hb hbytes d27)
  have hh5 := q5.trans hh3
  have c6 : Steps p.tables e below (s₁.setTop (entryFrame m #[.ref a, .ref b, .int (Int32.ofNat o), .int (Int32.ofNat len), .null] 6)) (T5.setTop (mkF m 30 #[.val (.ref a), .val (.ref b), .val (.int (Int32.ofNat o)), .val (.int (Int32.ofNat len)), .val .null, .unset] [.int z])) := c4.trans (st5 _ (Steps.refl _))
  have c7 : Steps p.tables e below (s₁.setTop (entryFrame m #[.ref a, .ref b, .int (Int32.ofNat o), .int (Int32.ofNat len), .null] 6)) (T5.setTop (mkF m 36 #[.val (.ref a), .val (.ref b), .val (.int (Int32.ofNat o)), .val (.int (Int32.ofNat len)), .val .null, .unset] [.int (Int32.ofNat len), .int (Int32.ofNat o), .ref b])) := c6.trans (by
    refine XS.ifNo X5.here hexec rfl (hb hbytes d30) rfl (i0_eq_f hz) ?_
    refine XS.aloadN X5.here hexec rfl (hb hbytes d33) rfl rfl ?_
    refine XS.iloadN X5.here hexec rfl (hb hbytes d34) rfl ?_
    refine XS.iloadN X5.here hexec rfl (hb hbytes d35) rfl ?_
    exact Steps.refl _)
  obtain ⟨v8, T8, X8, E8, g8⟩ := X5.callS hexec (Cmp3.law l b A o len) hown (wks W (staticW "java/lang/String" 177 Cmp3.yN)) (wk W Cmp3.tab) (W := 0) (Nat.le_of_ble_eq_true rfl) (Nat.le_of_ble_eq_true rfl) (Nat.le_refl _) (by show 0 + len ≤ len; omega) (g := (mkF m 36 #[.val (.ref a), .val (.ref b), .val (.int (Int32.ofNat o)), .val (.int (Int32.ofNat len)), .val .null, .unset] [.int (Int32.ofNat len), .int (Int32.ofNat o), .ref b])) rfl (by rw [hml]; rfl) c7 (argsL := [.ref b, .int (Int32.ofNat o), .int (Int32.ofNat len)]) (rest := []) rfl rfl (by show 2 * 0 + 0 ≤ _; decide) (hb hbytes d36) (⟨rfl, hA.mv X5.warmed.alike hh5, l1, l2, hp⟩)
  obtain ⟨e8, z8⟩ := E8
  obtain ⟨rfl, N, n1, n2, n3, n4, n5, n6⟩ := NewArr.mv _ T5 s _ _ hh5.symm (Vm.Alike.refl _) rfl e8
  rw [hh5] at z8
  have hB1 := hB.keep X8.warmed.alike (n6 _ _ hB.1)
  have hne : s.heap.size ≠ a := (Nat.ne_of_lt (Array.getElem?_eq_some_iff.mp hB.1).1).symm
  have c9 : Steps p.tables e below (s₁.setTop (entryFrame m #[.ref a, .ref b, .int (Int32.ofNat o), .int (Int32.ofNat len), .null] 6)) (T8.setTop (mkF m 39 #[.val (.ref a), .val (.ref b), .val (.int (Int32.ofNat o)), .val (.int (Int32.ofNat len)), .val .null, .unset] [.ref s.heap.size])) := g8
  have c10 : Steps p.tables e below (s₁.setTop (entryFrame m #[.ref a, .ref b, .int (Int32.ofNat o), .int (Int32.ofNat len), .null] 6)) (T8.setTop (mkF m 45 #[.val (.ref a), .val (.ref b), .val (.int (Int32.ofNat o)), .val (.int (Int32.ofNat len)), .val .null, .val (.ref s.heap.size)] [.int (Int32.ofNat N.slots.size), .ref s.heap.size, .ref a])) := by
    have hc : Steps p.tables e below (s₁.setTop (entryFrame m #[.ref a, .ref b, .int (Int32.ofNat o), .int (Int32.ofNat len), .null] 6)) (T8.setTop (mkF m 45 #[.val (.ref a), .val (.ref b), .val (.int (Int32.ofNat o)), .val (.int (Int32.ofNat len)), .val .null, .val (.ref s.heap.size)] [.int (Int32.ofNat len), .ref s.heap.size, .ref a])) := c9.trans (by
      refine XS.astore X8.here hexec rfl (hb hbytes d39) rfl rfl rfl ?_
      refine XS.aloadN X8.here hexec rfl (hb hbytes d41) rfl rfl ?_
      refine XS.aload X8.here hexec rfl (hb hbytes d42) rfl rfl ?_
      refine XS.iloadN X8.here hexec rfl (hb hbytes d44) rfl ?_
      exact Steps.refl _)
    rw [n4]; exact hc
  obtain ⟨v11, T11, X11, E11, g11⟩ := X8.callS hexec (CodL.law l s.heap.size N) hown (wks W (staticW "java/lang/String" 47 CodL.yN)) (wk W CodL.tab) (W := 1) (Nat.le_of_ble_eq_true rfl) (Nat.le_of_ble_eq_true rfl) (Nat.le_refl _) (by show 0 + len + 0 ≤ len; omega) (g := (mkF m 45 #[.val (.ref a), .val (.ref b), .val (.int (Int32.ofNat o)), .val (.int (Int32.ofNat len)), .val .null, .val (.ref s.heap.size)] [.int (Int32.ofNat N.slots.size), .ref s.heap.size, .ref a])) rfl (by rw [hml]; rfl) c10 (argsL := [.ref s.heap.size, .int (Int32.ofNat N.slots.size)]) (rest := [.ref a]) rfl rfl (by show 2 * 0 + (1 + 0) ≤ _; decide) (hb hbytes d45) (⟨rfl, n1⟩)
  obtain ⟨rfl, q11⟩ := E11
  have hB11 := hB1.mv (X8.warmed.alike.symm.trans X11.warmed.alike) q11
  have c12 : Steps p.tables e below (s₁.setTop (entryFrame m #[.ref a, .ref b, .int (Int32.ofNat o), .int (Int32.ofNat len), .null] 6)) (T11.setTop (mkF m 48 #[.val (.ref a), .val (.ref b), .val (.int (Int32.ofNat o)), .val (.int (Int32.ofNat len)), .val .null, .val (.ref s.heap.size)] [.int 0, .ref a])) := g11
  obtain ⟨T13, X13, p13, bl13, sl13, st13⟩ := X11.finit hexec hown (wk W (.fieldLink "java/lang/String" 15 "java/lang/String" "coder" "B")) (Or.inr ⟨_, (wk W (.laysFinal "java/lang/String" "java/lang/String" "coder" "B"))⟩) (Or.inl ⟨rfl, hnm⟩) f2 (Or.inl rfl) hB11 (t := .byte) (by decide +kernel) rfl (g := (mkF m 48 #[.val (.ref a), .val (.ref b), .val (.int (Int32.ofNat o)), .val (.int (Int32.ofNat len)), .val .null, .val (.ref s.heap.size)] [.int 0, .ref a])) rfl (rest := []) rfl (hb hbytes d48)
  have c14 : Steps p.tables e below (s₁.setTop (entryFrame m #[.ref a, .ref b, .int (Int32.ofNat o), .int (Int32.ofNat len), .null] 6)) (T13.setTop (mkF m 54 #[.val (.ref a), .val (.ref b), .val (.int (Int32.ofNat o)), .val (.int (Int32.ofNat len)), .val .null, .val (.ref s.heap.size)] [.ref s.heap.size, .ref a])) := (c12.trans (st13 _ (Steps.refl _))).trans (by
    refine XS.aloadN X13.here hexec rfl (hb hbytes d51) rfl rfl ?_
    refine XS.aload X13.here hexec rfl (hb hbytes d52) rfl rfl ?_
    exact Steps.refl _)
  obtain ⟨T15, X15, p15, bl15, sl15, st15⟩ := X13.finit hexec hown (wk W (.fieldLink "java/lang/String" 9 "java/lang/String" "value" "[B")) (Or.inr ⟨_, (wk W (.laysFinal "java/lang/String" "java/lang/String" "value" "[B"))⟩) (Or.inl ⟨rfl, hnm⟩) f1 (Or.inl rfl) bl13 (t := (.array .byte)) (by decide +kernel) rfl (g := (mkF m 54 #[.val (.ref a), .val (.ref b), .val (.int (Int32.ofNat o)), .val (.int (Int32.ofNat len)), .val .null, .val (.ref s.heap.size)] [.ref s.heap.size, .ref a])) rfl (rest := []) rfl (hb hbytes d54)
  have c16 : Steps p.tables e below (s₁.setTop (entryFrame m #[.ref a, .ref b, .int (Int32.ofNat o), .int (Int32.ofNat len), .null] 6)) (T15.setTop (mkF m 57 #[.val (.ref a), .val (.ref b), .val (.int (Int32.ofNat o)), .val (.int (Int32.ofNat len)), .val .null, .val (.ref s.heap.size)] [])) := c14.trans (st15 _ (Steps.refl _))
  have ap := apart (Or.inr ⟨_, (wk W (.laysFinal "java/lang/String" "java/lang/String" "value" "[B"))⟩) (Or.inr ⟨_, (wk W (.laysFinal "java/lang/String" "java/lang/String" "coder" "B"))⟩) f1 f2 (t₁ := .array .byte) (t₂ := .byte) (by decide +kernel) (by decide +kernel) (by decide)
  have al := X8.warmed.alike.symm.trans X15.warmed.alike
  have n7 : T11.heap[s.heap.size]? = some N := by rw [q11]; exact n1.1
  exact ⟨T15, none, _, _, _, X15, by simp, rfl, by omega, (fun _ => rfl), ⟨rfl, _, N, bl15, ((Same.refl D _).set _ (by simp)).set _ (by simp), sl15, (Cell.slots_setSlot_ne _ ap).trans sl13, n1.keep al (p15.other hne (p13.other hne n7)), n2, by rw [al.findClass]; exact n3, n4, n5, fun y c h1 h2 => p15.other h1 (p13.other h1 (by rw [q11]; exact n6 y c h2)), by rw [p15.2.2, p13.2.2, q11]; exact z8⟩, fun fs hl => c16.trans (X15.returnOut hexec hret (hb hbytes d57) hl)⟩
end New4
namespace New1
def yN : MethodName := ⟨"java/lang/String", "<init>", "([C)V"⟩
abbrev yB : ByteArray := jdk_42_method_3_code
theorem d0 : decode yB 0 = .ok (.aload_n 0, 1) := by decide +kernel
theorem d1 : decode yB 1 = .ok (.aload_n 1, 1) := by decide +kernel
theorem d2 : decode yB 2 = .ok (.iconst 0, 1) := by decide +kernel
theorem d3 : decode yB 3 = .ok (.aload_n 1, 1) := by decide +kernel
theorem d4 : decode yB 4 = .ok (.arraylength, 1) := by decide +kernel
theorem d5 : decode yB 5 = .ok (.aconst_null, 1) := by decide +kernel
theorem d6 : decode yB 6 = .ok (.invokespecial 27, 3) := by decide +kernel
theorem d9 : decode yB 9 = .ok (.return_, 1) := by decide +kernel
def site : List Cond := [New4.tab] ++ initW "java/lang/String" 27 New4.yN
def tab : Cond := tabOf yN yB 2 none site
def P (a : Addr) (D : Cell) (fV fC : Field) (b : Addr) (A : Cell) (z : Int32) (args : Array Value) (s : State) : Prop := args = #[.ref a, .ref b] ∧ Blank "java/lang/String" a D s ∧ Found "java/lang/String" "value" "[B" fV s ∧ Found "java/lang/String" "coder" "B" fC s ∧ Ch b A s ∧ StaticIs s "java/lang/String" "COMPACT_STRINGS" "Z" (.int z) ∧ ¬ z = 0 ∧ 0 < A.slots.size ∧ A.slots.size ≤ 536870912 ∧ ∀ i, i < A.slots.size → ¬ 255 < cv A i
def E (a : Addr) (D : Cell) (fV fC : Field) (A : Cell) (r : Option Value) (s u : State) : Prop := Got a D fV fC A 0 A.slots.size r s u
/-- new String(chars), not empty, no char above 255: a Latin-1 String of their low bytes -/
theorem law (l : Launch) (a : Addr) (D : Cell) (fV fC : Field) (b : Addr) (A : Cell) (z : Int32) : Law l yN 2 1 3 52 yB 2 none site (P a D fV fC b A z) (E a D fV fC A) [⟨a, fC.slot⟩, ⟨a, fV.slot⟩] 1 A.slots.size := by
  refine Law.of_walk (plainFor_of_name (by decide +kernel)) (by decide +kernel) (by decide +kernel) (by decide) (fun _ _ h => by rw [h.1]; rfl) (fun _ U U' hal hh h => ⟨h.1, h.2.1.mv hal hh, h.2.2.1.al hal, h.2.2.2.1.al hal, h.2.2.2.2.1.mv hal hh, h.2.2.2.2.2.1.there hal hh, h.2.2.2.2.2.2⟩) (fun r U U' V V' h1 hal h2 h => Got.mv r U U' V V' h1 hal h2 h) ?_
  intro p e s m args below meth c s₁ X0 hexec hbytes hml hret hlk hnm hown hh0 W hP
  obtain ⟨rfl, hB, f1, f2, hA, s1, hz, l0, l2, hp⟩ := hP
  have c1 : Steps p.tables e below (s₁.setTop (entryFrame m #[.ref a, .ref b] 2)) (s₁.setTop (mkF m 0 #[.val (.ref a), .val (.ref b)] [])) := entry rfl
  have c2 : Steps p.tables e below (s₁.setTop (entryFrame m #[.ref a, .ref b] 2)) (s₁.setTop (mkF m 6 #[.val (.ref a), .val (.ref b)] [.null, .int (Int32.ofNat A.slots.size), .int 0, .ref b, .ref a])) := c1.trans (by
    refine XS.aloadN X0.here hexec rfl (hb hbytes d0) rfl rfl ?_
    refine XS.aloadN X0.here hexec rfl (hb hbytes d1) rfl rfl ?_
    refine iconstV X0.here hexec rfl 0 (hb hbytes d2) (by decide) ?_
    refine XS.aloadN X0.here hexec rfl (hb hbytes d3) rfl rfl ?_
    refine X0.alen hexec (hA.1.mv X0.warmed.alike hh0) rfl rfl (hb hbytes d4) ?_
    refine XS.aconstNull X0.here hexec rfl (hb hbytes d5) ?_
    exact Steps.refl _)
  obtain ⟨v3, T3, X3, E3, g3⟩ := X0.callN hexec (New4.law l a D fV fC b A z 0 A.slots.size) rfl hown (wks W (initW "java/lang/String" 27 New4.yN)) (W New4.tab (by simp only [site, List.mem_cons, List.mem_append, true_or, or_true])) (W := 0) (Nat.le_of_ble_eq_true rfl) (Nat.le_of_ble_eq_true rfl) (Nat.le_refl _) (by show 0 + A.slots.size ≤ A.slots.size; omega) (g := (mkF m 6 #[.val (.ref a), .val (.ref b)] [.null, .int (Int32.ofNat A.slots.size), .int (Int32.ofNat 0), .ref b, .ref a])) rfl (by rw [hml]; rfl) c2 (argsL := [.ref b, .int (Int32.ofNat 0), .int (Int32.ofNat A.slots.size), .null]) (rest := []) rfl rfl (by show 2 * 0 + 0 ≤ _; decide) (hb hbytes d6) (⟨rfl, hB.mv X0.warmed.alike hh0, f1.al X0.warmed.alike, f2.al X0.warmed.alike, hA.mv X0.warmed.alike hh0, s1.there X0.warmed.alike hh0, hz, l0, by omega, l2, fun i hi => by rw [Nat.zero_add]; exact hp i hi⟩)
  have e0 := Got.mv _ s₁ s _ _ hh0.symm (Vm.Alike.refl _) rfl E3
  obtain rfl := e0.1
  have c4 : Steps p.tables e below (s₁.setTop (entryFrame m #[.ref a, .ref b] 2)) (T3.setTop (mkF m 9 #[.val (.ref a), .val (.ref b)] [])) := g3
  exact ⟨T3, none, _, _, _, X3, by simp, rfl, by omega, (fun _ => rfl), e0, fun fs hl => c4.trans (X3.returnOut hexec hret (hb hbytes d9) hl)⟩
theorem pays {l : Launch} {R : Room} {p : Program} {e : Env} {below : List Frame} {s : State} {sargs : Array Value} {len W : Nat} (a : Addr) (D : Cell) (fV fC : Field) (b : Addr) (A : Cell) (z : Int32) (htab : tab.before sargs s = true) (hfr : 4 ≤ R.frames) (hlo : W + 65 ≤ R.locals) :
    Back l R p e below s sargs yN len W (fun A₁ a₁ => A₁.cells + 1 ≤ R.cells ∧ A₁.slots + A.slots.size ≤ R.slots ∧ P a D fV fC b A z a₁ A₁.U) (fun A₁ _ v₁ B₁ => E a D fV fC A v₁ A₁.U B₁.U ∧ B₁.locs = A₁.locs ++ [⟨a, fC.slot⟩, ⟨a, fV.slot⟩] ∧ B₁.cells = A₁.cells + 1 ∧ B₁.slots = A₁.slots + A.slots.size) :=
  (law l a D fV fC b A z).pays htab hfr (by omega)
end New1
/-- the byte, read back as charAt reads it, is the char -/
theorem lo8_mask {x : Int32} (h0 : ¬ x < 0) (h1 : ¬ 255 < x) : lo8 x &&& 255 = x := by
  have t : ∀ k : Fin 256, lo8 (Int32.ofNat k.val) &&& 255 = Int32.ofNat k.val := by decide +kernel
  rw [Int32.lt_iff_toInt_lt] at h0 h1
  have e0 : (0 : Int32).toInt = 0 := rfl
  have e1 : (255 : Int32).toInt = 255 := rfl
  obtain ⟨k, hk⟩ : ∃ k : Nat, x.toInt = k := ⟨x.toInt.toNat, by omega⟩
  have hx : x = Int32.ofNat k := Int32.toInt_inj.mp (by rw [hk, Int32.toInt_ofNat_small (by omega)])
  rw [hx]
  exact t ⟨k, by omega⟩
end StrChars
namespace StrChars.Road
open Jvm Sem ClassFile Op Lib Jvm.Stand Jvm.Free Jvm.Free.XT
open Jvm.Lib.Cold (StaticIs)
abbrev ST : String := "java/lang/String"
/-- every table word that New1's law asks, flat -/
abbrev words : List Jvm.Cond := [.code New1.yN New1.yB 2 none, .initialized ST, .methodLink ST 27 New4.yN, .instanceMethod New4.yN,
  .code New4.yN New4.yB 6 none, .fieldLink ST 38 ST "COMPACT_STRINGS" "Z", .laysFinal ST ST "value" "[B", .fieldLink ST 9 ST "value" "[B", .laysFinal ST ST "coder" "B", .fieldLink ST 15 ST "coder" "B",
  .methodLink ST 1 Lib.objectInit, .instanceMethod Lib.objectInit, .code Lib.objectInit ⟨#[0xb1]⟩ 1 none, .methodLink ST 177 Cmp3.yN, .static Cmp3.yN, .methodLink ST 47 CodL.yN, .static CodL.yN,
  .code Cmp3.yN Cmp3.yB 6 (some (.array .byte)), .initialized U16, .arrayClass .byte, .methodLink U16 115 Cmp5.yN, .static Cmp5.yN, .code Cmp5.yN Cmp5.yB 7 (some .int), .code CodL.yN CodL.yB 2 (some .byte)]
theorem tab_of {a : Array Value} {s : State} (h : ∀ w ∈ words, w.before a s = true) : New1.tab.before a s = true := by
  have h5 : Cmp5.tab.before a s = true := unparts (wk h (.code Cmp5.yN Cmp5.yB 7 (some .int))) (wks h (.initialized Cmp5.yN.cls :: Cmp5.site))
  have hc : CodL.tab.before a s = true := unparts (wk h (.code CodL.yN CodL.yB 2 (some .byte))) (wks h (.initialized CodL.yN.cls :: CodL.site))
  have q5 : ∀ w ∈ Cmp5.tab :: words, w.before a s = true := fun w hw => (List.mem_cons.mp hw).elim (fun e => e ▸ h5) (h w)
  have h3 : Cmp3.tab.before a s = true := unparts (wk q5 (.code Cmp3.yN Cmp3.yB 6 (some (.array .byte)))) (wks q5 (.initialized Cmp3.yN.cls :: Cmp3.site))
  have q3 : ∀ w ∈ Cmp3.tab :: CodL.tab :: words, w.before a s = true := fun w hw => (List.mem_cons.mp hw).elim (fun e => e ▸ h3) fun hw => (List.mem_cons.mp hw).elim (fun e => e ▸ hc) (h w)
  have h4 : New4.tab.before a s = true := unparts (wk q3 (.code New4.yN New4.yB 6 none)) (wks q3 (.initialized New4.yN.cls :: New4.site))
  have q4 : ∀ w ∈ New4.tab :: words, w.before a s = true := fun w hw => (List.mem_cons.mp hw).elim (fun e => e ▸ h4) (h w)
  exact unparts (wk q4 (.code New1.yN New1.yB 2 none)) (wks q4 (.initialized New1.yN.cls :: New1.site))
/-- the words ride from the start Z to the walk's own state -/
theorem moved {Z s : State} {a0 args : Array Value} (hZ : Z.Warmed39 s.vm) (hw : ∀ d ∈ words, d.before a0 Z = true) : ∀ d ∈ words, d.before args s = true := fun d hd => by
  have q := hw d hd
  have t : ∀ d ∈ words, d = .arrayClass .byte ∨ (d.onTables && d.keepsFace) = true := by decide +kernel
  rcases t d hd with rfl | t
  · exact RoadKit.mvA hZ q
  · exact RoadKit.mv hZ q t
/-- WHAT COMES BACK, over the tables of the start Z: h the heap at the call, h' behind it -/
def Q (Z : State) (x : Addr) (A : Cell) (h : Heap) (v : Option Value) (h' : Heap) (L : List Loc) : Prop := v = none ∧ (∀ y ∈ L, y.base = x) ∧ RoadKit.Keep h h' [x] ∧ h'.size = h.size + 1 ∧ RoadKit.Exa Z h' x ST ∧ RoadKit.Fld Z h' x ST "value" "[B" (.ref h.size) ∧ RoadKit.Fld Z h' x ST "coder" "B" (.int 0) ∧
  (∃ V : Cell, RoadKit.Arr Z h' h.size V .byte ∧ V.vm = .none ∧ Z.vm.findClass "[B" = some V.cls ∧ V.slots.size = A.slots.size ∧ ∀ j, j < A.slots.size → V.slots[j]? = some (.int (lo8 (cv A j)))) ∧
  ∀ (O n d : String) (w : Value), RoadKit.Fld Z h x O n d w → RoadKit.slotOf Z O n d ≠ RoadKit.slotOf Z ST "value" "[B" → RoadKit.slotOf Z O n d ≠ RoadKit.slotOf Z ST "coder" "B" → RoadKit.Fld Z h' x O n d w
/-- **new String(chars) AT A CALL, IN THE ROAD'S FORM**: for specialBack behind newO: x the fresh String, b the char[] with the cell A -/
theorem back {p : Program} {l : Launch} {e : Env} {R : Room} {s : State} {args : Array Value} {below : List Frame} {len W : Nat} {Z : State} {a0 : Array Value} {h : Heap} (hZ : Z.Warmed39 s.vm) (hw : ∀ d ∈ words, d.before a0 Z = true) {kI : Nat} (wi : (Jvm.Cond.instantiable ST kI).before a0 Z = true)
    {x b : Addr} {A : Cell} {z : Int32} {v0 c0 : Value} (E : RoadKit.Exa Z h x ST) (V : RoadKit.Fld Z h x ST "value" "[B" v0) (C : RoadKit.Fld Z h x ST "coder" "B" c0) (K : RoadKit.Arr Z h b A .char) (hty : Typed .char A) (S : RoadKit.Sta Z h ST "COMPACT_STRINGS" "Z" (.int z)) (hz : ¬ z = 0)
    (l0 : 0 < A.slots.size) (l2 : A.slots.size ≤ 536870912) (hp : ∀ i, i < A.slots.size → ¬ 255 < cv A i) (hfr : 4 ≤ R.frames) (hlo : W + 65 ≤ R.locals) :
    Back l R p e below s args New1.yN len W (fun P a => a = #[.ref x, .ref b] ∧ P.U.heap = h ∧ P.cells + 1 ≤ R.cells ∧ P.slots + A.slots.size ≤ R.slots)
      (fun P _ v B => ∃ L, Q Z x A h v B.U.heap L ∧ B.locs = P.locs ++ L ∧ B.cells = P.cells + 1 ∧ B.slots = P.slots + A.slots.size) := by
  intro m meth c P g ig mk a X hg hsize hdg hW hn hp'
  obtain ⟨rfl, rfl, r1, r2⟩ := hp'
  have al : Z.vm.Alike P.U.vm := hZ.alike.trans X.warmed.alike
  obtain ⟨D, cfV, kV, iV, fV, hD, gV, stV, knV, obV, asV, slV⟩ := id V
  obtain ⟨D', cfC, kC, iC, fC, hD', gC, stC, -, -, asC, slC⟩ := id C
  cases hD.symm.trans hD'
  obtain ⟨D2, kD, e1, e2, e3, e4, e5⟩ := id E
  cases hD.symm.trans e1
  obtain ⟨c2, k2, i1, i2, i3, -⟩ := Cond.instantiable_spec wi
  cases e2.symm.trans i1
  cases e3.symm.trans i2
  obtain ⟨kU, u1, u2⟩ := al.2.2 _ _ e3
  have hB : Blank ST x D P.U := ⟨hD, ⟨knV, fun q hq => by rw [hq] at obV; cases obV⟩, by rw [al.findClass]; exact e2, kU, u1, by rw [u2]; exact i3, by rw [u2]; exact e5 i3⟩
  have F1 : Found ST "value" "[B" fV P.U := ⟨SBG.found_only al ⟨cfV, kV, iV, gV⟩, stV⟩
  have F2 : Found ST "coder" "B" fC P.U := ⟨SBG.found_only al ⟨cfC, kC, iC, gC⟩, stC⟩
  have hA : Ch b A P.U := ⟨⟨K.1, State.isArrayOf_alike al K.2.1, K.2.2, by omega⟩, hty⟩
  have hS : StaticIs P.U ST "COMPACT_STRINGS" "Z" (.int z) := by
    obtain ⟨cfS, iS, kS, fS, st, cS, t1, t2, t3, t4, t5, t6, t7⟩ := S
    exact StaticIs.there (s := { Z with heap := P.U.heap }) ⟨cfS, iS, kS, fS, st, cS, t1, t2, t3, t4, t5, (fun q => by rw [q] at t6; cases t6), t7⟩ al rfl
  obtain ⟨v, B, X', ⟨⟨hv, E', V', q1, q2, q3, q4, q5, q6, q7, q8, q9, q10, q11⟩, hl, hc, hs⟩, st⟩ := New1.pays x D fV fC b A z (tab_of (moved hZ hw)) hfr hlo m meth c P g ig mk _ X hg hsize hdg hW hn ⟨r1, r2, rfl, hB, F1, F2, hA, hS, hz, l0, l2, hp⟩
  have al' : Z.vm.Alike B.U.vm := hZ.alike.trans X'.warmed.alike
  have hsz : E'.slots.size = D.slots.size := by
    obtain ⟨-, -, -, kB, w1, w2, w3⟩ := q1
    obtain ⟨kB', y1, y2⟩ := al'.2.2 _ _ e3
    rw [q2.2.1] at w1
    cases w1.symm.trans y1
    rw [w3, e5 i3, y2]
  refine ⟨v, B, X', ⟨_, ⟨hv, ?_, ⟨by omega, fun y cy hy hn' => q10 y cy (by simpa using hn') hy, fun y cy hy => ?_⟩, q11, ⟨E', _, q1.1, by rw [q2.2.1]; exact e2, by rw [q2.2.1]; exact e3, by rw [q2.1]; exact obV, fun _ => by rw [hsz]; exact e5 i3⟩,
    ⟨E', cfV, kV, iV, fV, q1.1, gV, stV, by rw [q2.1]; exact knV, by rw [q2.1]; exact obV, by rw [q2.2.1]; exact asV, q3⟩, ⟨E', cfC, kC, iC, fC, q1.1, gC, stC, by rw [q2.1]; exact knV, by rw [q2.1]; exact obV, by rw [q2.2.1]; exact asC, q4⟩,
    ⟨V', ⟨q5.1, State.isArrayOf_alike al'.symm q5.2.1, q5.2.2.1⟩, q6, by rw [← al'.findClass]; exact q7, q8, fun j hj => by have := q9 j hj; rwa [Nat.zero_add] at this⟩, fun O n d w F n1 n2 => ?_⟩, hl, hc, hs⟩, st⟩
  · intro y hy
    simp only [List.mem_cons, List.not_mem_nil, or_false] at hy
    rcases hy with rfl | rfl <;> rfl
  · by_cases q : y = x
    · subst q
      cases hD.symm.trans hy
      exact ⟨E', q1.1, q2.2.1, q2.1, hsz⟩
    · exact ⟨cy, q10 y cy q hy, rfl, rfl, rfl⟩
  · obtain ⟨D3, cf, k, i, f, g1, g2, g3, g4, g5, g6, g7⟩ := F
    cases hD.symm.trans g1
    simp only [RoadKit.slotOf, g2, gV, gC, Option.map_some, Option.getD_some] at n1 n2
    exact ⟨E', cf, k, i, f, q1.1, g2, g3, by rw [q2.1]; exact g4, by rw [q2.1]; exact g5, by rw [q2.2.1]; exact g6, by rw [q2.2.2 f.slot (by simp [n1, n2])]; exact g7⟩
end StrChars.Road
namespace StrChars.Road
open Jvm Sem ClassFile Op Lib Jvm.Stand Jvm.Free Jvm.Free.XT
/-- WHAT COMES BACK, the byte[] as a list of values -/
def QA (Z : State) (x : Addr) (zn : Int32) (cs : List Int32) (h : Heap) (v : Option Value) (h' : Heap) (L : List Loc) : Prop := v = none ∧ (∀ y ∈ L, y.base = x) ∧ RoadKit.Keep h h' [x] ∧ h'.size = h.size + 1 ∧ RoadKit.Exa Z h' x ST ∧ RoadKit.Fld Z h' x ST "value" "[B" (.ref h.size) ∧ RoadKit.Fld Z h' x ST "coder" "B" (.int 0) ∧
  (∃ kb, Z.vm.findClass "[B" = some kb ∧ RoadKit.Arv Z h' h.size kb .byte zn (cs.map fun c => .int (lo8 c)) (.int 0)) ∧
  ∀ (O n d : String) (w : Value), RoadKit.Fld Z h x O n d w → RoadKit.slotOf Z O n d ≠ RoadKit.slotOf Z ST "value" "[B" → RoadKit.slotOf Z O n d ≠ RoadKit.slotOf Z ST "coder" "B" → RoadKit.Fld Z h' x O n d w
/-- **new String(chars) AT A CALL, THE ARRAYS AS LISTS**: the char[] at b holds cs, not empty, no char above 255 -/
theorem backArv {p : Program} {l : Launch} {e : Env} {R : Room} {s : State} {args : Array Value} {below : List Frame} {len W : Nat} {Z : State} {a0 : Array Value} {h : Heap} (hZ : Z.Warmed39 s.vm) (hw : ∀ d ∈ words, d.before a0 Z = true) {kI : Nat} (wi : (Jvm.Cond.instantiable ST kI).before a0 Z = true)
    {x b : Addr} {k : ClassId} {zn z : Int32} {cs : List Int32} {dv v0 c0 : Value} (E : RoadKit.Exa Z h x ST) (V : RoadKit.Fld Z h x ST "value" "[B" v0) (C : RoadKit.Fld Z h x ST "coder" "B" c0) (K : RoadKit.Arv Z h b k .char zn (cs.map Value.int) dv) (S : RoadKit.Sta Z h ST "COMPACT_STRINGS" "Z" (.int z)) (hz : ¬ z = 0)
    (hlen : zn.toNatClampNeg = cs.length) (h0 : 0 < cs.length) (hbig : cs.length ≤ 536870912) (hall : ∀ c ∈ cs, ¬ 255 < c) (hfr : 4 ≤ R.frames) (hlo : W + 65 ≤ R.locals) :
    Back l R p e below s args New1.yN len W (fun P a => a = #[.ref x, .ref b] ∧ P.U.heap = h ∧ P.cells + 1 ≤ R.cells ∧ P.slots + cs.length ≤ R.slots)
      (fun P _ v B => ∃ L, QA Z x zn cs h v B.U.heap L ∧ B.locs = P.locs ++ L ∧ B.cells = P.cells + 1 ∧ B.slots = P.slots + cs.length) := by
  obtain ⟨A, K1, K2, K3, K4, K5, K6⟩ := K
  have e : A.slots.size = cs.length := K3.trans hlen
  have hat : ∀ (i : Nat) (hi : i < cs.length), A.slots[i]? = some (.int cs[i]) := fun i hi => by rw [K5 i (by omega)]; simp [List.getD_eq_getElem?_getD, hi]
  have hcv : ∀ (i : Nat) (hi : i < cs.length), cv A i = cs[i] := fun i hi => by unfold cv; rw [hat i hi]
  have hty : Typed .char A := fun i v hv => by
    have hi : i < A.slots.size := (Array.getElem?_eq_some_iff.mp hv).1
    have q := K5 i hi
    rw [hv] at q
    rw [Option.some.inj q]
    exact K6 i hi
  refine Back.mono (back hZ hw wi E V C K1 hty S hz (by omega) (by omega) (fun i hi => by rw [hcv i (by omega)]; exact hall _ (List.getElem_mem _)) hfr hlo) (fun P a hp => ⟨hp.1, hp.2.1, hp.2.2.1, by rw [e]; exact hp.2.2.2⟩) (fun P a v B hp hq => ?_)
  obtain ⟨L, ⟨q1, q2, q3, q4, q5, q6, q7, ⟨V', v1, v2, v3, v4, v5⟩, q9⟩, hl, hc, hs⟩ := hq
  refine ⟨L, ⟨q1, q2, q3, q4, q5, q6, q7, ⟨V'.cls, v3, V', v1, rfl, by rw [v4, e, hlen], K4, fun i hi => ?_, fun i hi => ?_⟩, q9⟩, hl, hc, by rw [hs, e]⟩
  · have hi' : i < cs.length := by omega
    rw [v5 i (by omega), hcv i hi']; simp [List.getD_eq_getElem?_getD, hi']
  · have hi' : i < cs.length := by omega
    simp only [List.getD_eq_getElem?_getD, List.getElem?_map, List.getElem?_eq_getElem hi', Option.map_some, Option.getD_some]
    exact fits_lo8 _
end StrChars.Road
namespace StrChars.Road
open Jvm Sem ClassFile Op Lib Jvm.Stand Jvm.Free Jvm.Free.XT
/-- WHAT COMES BACK, in the writer's own shape -/
def QV (Z : State) (x : Addr) (N : Int32) (bs : List Int32) (h : Heap) (n0 : Nat) (v : Option Value) (h' : Heap) (L : List Loc) : Prop := v = none ∧ RoadKit.Fr n0 L ∧ RoadKit.Keep h h' [x] ∧ RoadKit.Exa Z h' x ST ∧ RoadKit.Fld Z h' x ST "coder" "B" (.int 0) ∧
  ∃ (t : Addr) (kb : ClassId), n0 ≤ t ∧ h.size ≤ t ∧ ¬ t = x ∧ RoadKit.Fld Z h' x ST "value" "[B" (.ref t) ∧ RoadKit.Arv Z h' t kb .byte N (bs.map Value.int) (.int 0)
/-- **new String(chars) AT A CALL, FOR THE WRITER**: a char[] of n known ints, each 0 to 255 -/
theorem backV {p : Program} {l : Launch} {e : Env} {R : Room} {s : State} {args : Array Value} {below : List Frame} {len W : Nat} {Z : State} {a0 : Array Value} {h : Heap} (hZ : Z.Warmed39 s.vm) (hw : ∀ d ∈ words, d.before a0 Z = true) {kI : Nat} (wi : (Jvm.Cond.instantiable ST kI).before a0 Z = true)
    {x b : Addr} {kC : ClassId} {cs bs : List Int32} {d v0 c0 : Value} {z N : Int32} {n n0 : Nat} (hx0 : n0 ≤ x) (hh0 : n0 ≤ h.size) (E : RoadKit.Exa Z h x ST) (V : RoadKit.Fld Z h x ST "value" "[B" v0) (C : RoadKit.Fld Z h x ST "coder" "B" c0) (K : RoadKit.Arv Z h b kC .char N (cs.map Value.int) d) (S : RoadKit.Sta Z h ST "COMPACT_STRINGS" "Z" (.int z)) (hz : ¬ z = 0)
    (hn : cs.length = n) (hN : N = Int32.ofNat n) (l0 : 0 < n) (l2 : n ≤ 4000) (hp : ∀ c ∈ cs, ¬ c < 0 ∧ ¬ (255 : Int32) < c) (hb : bs = cs.map (fun c => c.toInt8.toInt32)) (hfr : 4 ≤ R.frames) (hlo : W + 65 ≤ R.locals) :
    Back l R p e below s args (⟨"java/lang/String", "<init>", "([C)V"⟩ : MethodName) len W (fun P a => a = #[.ref x, .ref b] ∧ P.U.heap = h ∧ P.cells + 1 ≤ R.cells ∧ P.slots + n ≤ R.slots)
      (fun P _ v B => ∃ L, QV Z x N bs h n0 v B.U.heap L ∧ B.locs = P.locs ++ L ∧ B.cells = P.cells + 1 ∧ B.slots = P.slots + n) := by
  subst hn hN hb
  refine Back.mono (backArv hZ hw wi E V C K S hz (n32 (by omega)) l0 (by omega) (fun c hc => (hp c hc).2) hfr hlo) (fun P a hp => hp) (fun P a v B hp hq => ?_)
  obtain ⟨L, ⟨q1, q2, q3, q4, q5, q6, q7, ⟨kb, v1, v2⟩, q9⟩, hl, hc, hs⟩ := hq
  exact ⟨L, ⟨q1, fun y hy => by rw [q2 y hy]; exact hx0, q3, q5, q7, h.size, kb, hh0, Nat.le_refl _, Nat.ne_of_gt E.lt, q6, by rw [List.map_map]; exact v2⟩, hl, hc, hs⟩
end StrChars.Road
namespace StrChars
open Jvm Sem ClassFile Op Lib Jvm.Stand Jvm.Free.XT Jvm.Free.ALB Jvm.Free.JM Jvm.Free
open Jvm.Lib.Cold (StaticIs)
def hi8 (x : Int32) : Int32 := lo8 (x >>> ((8 : Int32) &&& 31))
/-- what StringUTF16.getChar makes of two bytes -/
def pairCh (u v : Int32) : Int32 := (((u &&& 255) <<< ((0 : Int32) &&& 31)) ||| ((v &&& 255) <<< ((8 : Int32) &&& 31))).toUInt32.toUInt16.toUInt32.toInt32
theorem lo8_and (x : Int32) : (lo8 x &&& 255).toBitVec.toNat = x.toBitVec.toNat % 256 := by
  have h : (lo8 x).toBitVec = (x.toBitVec.signExtend 8).signExtend 32 := by rw [lo8, Int8.toBitVec_toInt32, Int32.toBitVec_toInt8]
  rw [Int32.toBitVec_and, BitVec.toNat_and, h]
  have e : ((x.toBitVec.signExtend 8).signExtend 32).toNat % 256 = x.toBitVec.toNat % 256 := by
    rw [BitVec.toNat_signExtend]
    have hlt := x.toBitVec.isLt
    simp only [BitVec.toNat_setWidth, BitVec.toNat_signExtend]
    split <;> split <;> omega
  rw [← e]
  exact Nat.and_two_pow_sub_one_eq_mod _ 8
theorem pair_says {c : Int32} (h0 : ¬ c < 0) (h1 : ¬ 65535 < c) : pairCh (lo8 c) (hi8 c) = c := by
  rw [Int32.lt_iff_toInt_lt] at h0 h1
  have e0 : (0 : Int32).toInt = 0 := rfl
  have e1 : (65535 : Int32).toInt = 65535 := rfl
  have hc : c.toInt = c.toBitVec.toNat := by
    have := c.toBitVec.isLt
    have e : c.toInt = c.toBitVec.toInt := rfl
    rw [e] at h0 h1
    rw [e]
    rw [BitVec.toInt_eq_toNat_cond] at h0 h1 ⊢
    split at h0 <;> split <;> omega
  have hn : c.toBitVec.toNat < 65536 := by omega
  have a1 := lo8_and c
  have a2 : (hi8 c &&& 255).toBitVec.toNat = c.toBitVec.toNat / 256 := by
    rw [hi8, lo8_and]
    have e : ((8 : Int32) &&& 31) = 8 := by decide
    rw [e, Int32.toBitVec_shiftRight]
    have e2 : ((8 : Int32).toBitVec.smod 32) = 8#32 := by decide
    rw [e2, BitVec.sshiftRight_eq', BitVec.toNat_sshiftRight_of_msb_false (by rw [BitVec.msb_eq_false_iff_two_mul_lt]; omega)]
    show c.toBitVec.toNat >>> 8 % 256 = _
    rw [Nat.shiftRight_eq_div_pow]
    omega
  unfold pairCh
  apply Int32.toBitVec_inj.mp
  apply BitVec.eq_of_toNat_eq
  have f0 : ((0 : Int32) &&& 31) = 0 := by decide
  have f8 : ((8 : Int32) &&& 31) = 8 := by decide
  rw [f0, f8]
  have g : (((lo8 c &&& 255) <<< (0 : Int32)) ||| ((hi8 c &&& 255) <<< (8 : Int32))).toBitVec.toNat = c.toBitVec.toNat := by
    rw [Int32.toBitVec_or, Int32.toBitVec_shiftLeft, Int32.toBitVec_shiftLeft]
    have s0 : ((0 : Int32).toBitVec.smod 32) = 0#32 := by decide
    have s8 : ((8 : Int32).toBitVec.smod 32) = 8#32 := by decide
    rw [s0, s8, BitVec.toNat_or]
    simp only [BitVec.shiftLeft_eq', BitVec.toNat_shiftLeft, a1, a2]
    show (c.toBitVec.toNat % 256) <<< 0 % 2 ^ 32 ||| (c.toBitVec.toNat / 256) <<< 8 % 2 ^ 32 = _
    rw [Nat.shiftLeft_zero, Nat.mod_eq_of_lt (show c.toBitVec.toNat % 256 < 2 ^ 32 by omega), Nat.mod_eq_of_lt (show (c.toBitVec.toNat / 256) <<< 8 < 2 ^ 32 by rw [Nat.shiftLeft_eq]; omega), Nat.or_comm, ← Nat.shiftLeft_add_eq_or_of_lt (by omega), Nat.shiftLeft_eq]
    omega
  show BitVec.toNat (((((lo8 c &&& 255) <<< (0 : Int32)) ||| ((hi8 c &&& 255) <<< (8 : Int32))).toBitVec.setWidth 16).setWidth 32) = _
  rw [BitVec.toNat_setWidth, BitVec.toNat_setWidth, g]
  omega
end StrChars
namespace StrChars
open Jvm Sem ClassFile Op Lib Jvm.Stand Jvm.Free.XT Jvm.Free.ALB Jvm.Free.JM Jvm.Free
open Jvm.Lib.Cold (StaticIs)
/-- the array's cell V codes the n chars f 0 .. f (n - 1) by the coder cd, as the JDK does: coder 1 just where some char is above 255 -/
def Cod (cd : Int32) (n : Nat) (f : Nat → Int32) (V : Cell) : Prop := (cd = 0 ∧ V.slots.size = n ∧ ∀ j, j < n → V.slots[j]? = some (.int (lo8 (f j))) ∧ ¬ 255 < f j) ∨ (cd = 1 ∧ V.slots.size = 2 * n ∧ (∀ j, j < n → V.slots[2 * j]? = some (.int (lo8 (f j))) ∧ V.slots[2 * j + 1]? = some (.int (hi8 (f j)))) ∧ ∃ j, j < n ∧ 255 < f j)
/-- **x is a String of the n chars f 0 .. f (n - 1)**, Latin-1 or UTF-16; its array at t has the cell V -/
def Txt (x t : Addr) (V : Cell) (cd : Int32) (n : Nat) (f : Nat → Int32) (U : State) : Prop := Exact "java/lang/String" x U ∧ Has x "java/lang/String" "value" "[B" (.ref t) U ∧ Has x "java/lang/String" "coder" "B" (.int cd) U ∧ XT.Arr .byte t V U ∧ Cod cd n f V ∧ ∀ j, j < n → ¬ f j < 0 ∧ ¬ 65535 < f j
theorem Txt.mv {x t : Addr} {V : Cell} {cd : Int32} {n : Nat} {f : Nat → Int32} {U U' : State} (h : Txt x t V cd n f U) (hal : U.vm.Alike U'.vm) (hh : U'.heap = U.heap) : Txt x t V cd n f U' := ⟨h.1.mv hal hh, h.2.1.mv hal hh, h.2.2.1.mv hal hh, h.2.2.2.1.mv hal hh, h.2.2.2.2⟩
end StrChars
namespace StrChars.Road
open Jvm Sem ClassFile Op Lib Jvm.Stand Jvm.Free Jvm.Free.XT
open Jvm.Lib.Cold (StaticIs)
theorem consq {a : Array Value} {s : State} {c : Jvm.Cond} {L : List Jvm.Cond} (h0 : c.before a s = true) (h : ∀ w ∈ L, w.before a s = true) : ∀ w ∈ c :: L, w.before a s = true := fun w hw => (List.mem_cons.mp hw).elim (fun e => e ▸ h0) (h w)
/-- the bytes of the chars cs, low before high -/
def wideBytes : List Int32 → List Value
  | [] => []
  | c :: cs => .int (lo8 c) :: .int (hi8 c) :: wideBytes cs
theorem wide_lo (d : Value) : ∀ (cs : List Int32) (j : Nat), j < cs.length → (wideBytes cs).getD (2 * j) d = .int (lo8 (cs.getD j 0))
  | [], j, h => absurd h (Nat.not_lt_zero j)
  | c :: cs, 0, _ => rfl
  | c :: cs, j + 1, h => by
    have q := wide_lo d cs j (by simpa using h)
    rw [show 2 * (j + 1) = 2 * j + 1 + 1 from by omega]
    simpa [wideBytes] using q
theorem wide_hi (d : Value) : ∀ (cs : List Int32) (j : Nat), j < cs.length → (wideBytes cs).getD (2 * j + 1) d = .int (hi8 (cs.getD j 0))
  | [], j, h => absurd h (Nat.not_lt_zero j)
  | c :: cs, 0, _ => rfl
  | c :: cs, j + 1, h => by
    have q := wide_hi d cs j (by simpa using h)
    rw [show 2 * (j + 1) + 1 = 2 * j + 1 + 1 + 1 from by omega]
    simpa [wideBytes] using q
theorem low_at (d : Value) (cs : List Int32) (j : Nat) (h : j < cs.length) : (cs.map fun c => Value.int (lo8 c)).getD j d = .int (lo8 (cs.getD j 0)) := by
  simp [List.getD_eq_getElem?_getD, h]
/-- an array of N2 bytes vs codes the chars cs by the coder cd -/
def CodA (cs : List Int32) (cd N2 : Int32) (vs : List Value) : Prop := (cd = 0 ∧ N2 = Int32.ofNat cs.length ∧ vs = (cs.map fun c => Value.int (lo8 c)) ∧ ∀ c ∈ cs, ¬ 255 < c) ∨ (cd = 1 ∧ N2 = Int32.ofNat (2 * cs.length) ∧ vs = wideBytes cs ∧ ∃ c ∈ cs, 255 < c)
theorem CodA.cod {cs : List Int32} {cd N2 : Int32} {vs : List Value} {V : Cell} (h : CodA cs cd N2 vs) (hn : 2 * cs.length < 2 ^ 31) (hs : V.slots.size = N2.toNatClampNeg) (hv : RoadKit.Has V vs (.int 0)) : Cod cd cs.length (fun j => cs.getD j 0) V := by
  rcases h with ⟨rfl, rfl, rfl, h⟩ | ⟨rfl, rfl, rfl, c, hc, hw⟩
  · rw [n32 (by omega)] at hs
    exact Or.inl ⟨rfl, hs, fun j hj => ⟨by rw [hv j (by omega), low_at _ _ _ hj], by
      have e : cs.getD j 0 = cs[j] := by simp [List.getD_eq_getElem?_getD, hj]
      show ¬ 255 < cs.getD j 0
      rw [e]; exact h _ (List.getElem_mem _)⟩⟩
  · rw [n32 (by omega)] at hs
    obtain ⟨j, hj, rfl⟩ := List.getElem_of_mem hc
    exact Or.inr ⟨rfl, hs, fun j hj => ⟨by rw [hv _ (by omega), wide_lo _ _ _ hj], by rw [hv _ (by omega), wide_hi _ _ _ hj]⟩, j, hj, by
      have e : cs.getD j 0 = cs[j] := by simp [List.getD_eq_getElem?_getD, hj]
      show 255 < cs.getD j 0
      rw [e]; exact hw⟩
/-- an object of exactly java/lang/String, its two fields found: as the laws ask it -/
theorem strObj {Z U : State} {a0 : Array Value} {kI : Nat} (wi : (Jvm.Cond.instantiable ST kI).before a0 Z = true) (al : Z.vm.Alike U.vm) {x : Addr} {v0 c0 : Value} (E : RoadKit.Exa Z U.heap x ST) (V : RoadKit.Fld Z U.heap x ST "value" "[B" v0) (C : RoadKit.Fld Z U.heap x ST "coder" "B" c0) :
    ∃ (D : Cell) (fV fC : Field), Blank ST x D U ∧ Found ST "value" "[B" fV U ∧ Found ST "coder" "B" fC U ∧ D.slots[fV.slot]? = some v0 ∧ D.slots[fC.slot]? = some c0 ∧ RoadKit.slotOf Z ST "value" "[B" = fV.slot ∧ RoadKit.slotOf Z ST "coder" "B" = fC.slot := by
  obtain ⟨D, cfV, kV, iV, fV, hD, gV, stV, knV, obV, asV, slV⟩ := V
  obtain ⟨D', cfC, kC, iC, fC, hD', gC, stC, -, -, asC, slC⟩ := C
  cases hD.symm.trans hD'
  obtain ⟨D2, kD, e1, e2, e3, e4, e5⟩ := E
  cases hD.symm.trans e1
  obtain ⟨c2, k2, i1, i2, i3, -⟩ := Cond.instantiable_spec wi
  cases e2.symm.trans i1
  cases e3.symm.trans i2
  obtain ⟨kU, u1, u2⟩ := al.2.2 _ _ e3
  exact ⟨D, fV, fC, ⟨hD, ⟨knV, fun q hq => by rw [hq] at obV; cases obV⟩, by rw [al.findClass]; exact e2, kU, u1, by rw [u2]; exact i3, by rw [u2]; exact e5 i3⟩, ⟨SBG.found_only al ⟨cfV, kV, iV, gV⟩, stV⟩, ⟨SBG.found_only al ⟨cfC, kC, iC, gC⟩, stC⟩, slV, slC, by simp [RoadKit.slotOf, gV], by simp [RoadKit.slotOf, gC]⟩
theorem sta_is {Z U : State} (al : Z.vm.Alike U.vm) {C n d : String} {v : Value} (S : RoadKit.Sta Z U.heap C n d v) : StaticIs U C n d v := by
  obtain ⟨cfS, iS, kS, fS, st, cS, t1, t2, t3, t4, t5, t6, t7⟩ := S
  exact StaticIs.there (s := { Z with heap := U.heap }) ⟨cfS, iS, kS, fS, st, cS, t1, t2, t3, t4, t5, (fun q => by rw [q] at t6; cases t6), t7⟩ al rfl
end StrChars.Road
namespace StrChars
open Jvm Sem ClassFile Op Lib Jvm.Stand Jvm.Free.XT Jvm.Free.ALB Jvm.Free.JM Jvm.Free
open Jvm.Lib.Cold (StaticIs)
/-- what place i of a byte[]'s cell holds -/
def yv (A : Cell) (i : Nat) : Int32 := match A.slots[i]? with | some (.int x) => x | _ => 0
theorem yv_get {a : Addr} {A : Cell} {U : State} (h : XT.Arr .byte a A U) (ht : Typed .byte A) {i : Nat} (hi : i < A.slots.size) : A.slots[i]? = some (.int (yv A i)) := by
  have e := Array.getElem?_eq_getElem hi
  have f := ht i _ e
  unfold yv; rw [e]
  generalize A.slots[i] = v at f
  cases v <;> simp [fits] at f ⊢
/-- the two arrays are equal, place for place -/
def EqC (A B : Cell) : Prop := A.slots.size = B.slots.size ∧ ∀ i, i < A.slots.size → yv A i = yv B i
/-- a boolean that says whether p -/
def Says01 (q : Prop) (r : Option Value) (s u : State) : Prop := ∃ v : Int32, r = some (.int v) ∧ u.heap = s.heap ∧ ((v = 1 ∧ q) ∨ (v = 0 ∧ ¬ q))
theorem Says01.mv {q : Prop} : ∀ r (U U' V V' : State), U'.heap = U.heap → V.vm.Alike V'.vm → V'.heap = V.heap → Says01 q r U V → Says01 q r U' V' :=
  fun r U U' V V' h1 _ h2 ⟨v, a, b, c⟩ => ⟨v, a, by rw [h1, h2]; exact b, c⟩
namespace LEq
def yN : MethodName := ⟨"java/lang/StringLatin1", "equals", "([B[B)Z"⟩
abbrev yB : ByteArray := jdk_43_method_13_code
theorem d0 : decode yB 0 = .ok (.aload_n 0, 1) := by decide +kernel
theorem d1 : decode yB 1 = .ok (.arraylength, 1) := by decide +kernel
theorem d2 : decode yB 2 = .ok (.aload_n 1, 1) := by decide +kernel
theorem d3 : decode yB 3 = .ok (.arraylength, 1) := by decide +kernel
theorem d4 : decode yB 4 = .ok (.if_icmp (.ne) 30, 3) := by decide +kernel
theorem d7 : decode yB 7 = .ok (.iconst 0, 1) := by decide +kernel
theorem d8 : decode yB 8 = .ok (.istore_n 2, 1) := by decide +kernel
theorem d9 : decode yB 9 = .ok (.iload_n 2, 1) := by decide +kernel
theorem d10 : decode yB 10 = .ok (.aload_n 0, 1) := by decide +kernel
theorem d11 : decode yB 11 = .ok (.arraylength, 1) := by decide +kernel
theorem d12 : decode yB 12 = .ok (.if_icmp (.ge) 20, 3) := by decide +kernel
theorem d15 : decode yB 15 = .ok (.aload_n 0, 1) := by decide +kernel
theorem d16 : decode yB 16 = .ok (.iload_n 2, 1) := by decide +kernel
theorem d17 : decode yB 17 = .ok (.baload, 1) := by decide +kernel
theorem d18 : decode yB 18 = .ok (.aload_n 1, 1) := by decide +kernel
theorem d19 : decode yB 19 = .ok (.iload_n 2, 1) := by decide +kernel
theorem d20 : decode yB 20 = .ok (.baload, 1) := by decide +kernel
theorem d21 : decode yB 21 = .ok (.if_icmp (.eq) 5, 3) := by decide +kernel
theorem d24 : decode yB 24 = .ok (.iconst 0, 1) := by decide +kernel
theorem d25 : decode yB 25 = .ok (.ireturn, 1) := by decide +kernel
theorem d26 : decode yB 26 = .ok (.iinc 2 1, 3) := by decide +kernel
theorem d29 : decode yB 29 = .ok (.goto (-20), 3) := by decide +kernel
theorem d32 : decode yB 32 = .ok (.iconst 1, 1) := by decide +kernel
theorem d33 : decode yB 33 = .ok (.ireturn, 1) := by decide +kernel
theorem d34 : decode yB 34 = .ok (.iconst 0, 1) := by decide +kernel
theorem d35 : decode yB 35 = .ok (.ireturn, 1) := by decide +kernel
def site : List Cond := []
def tab : Cond := tabOf yN yB 3 (some .boolean) site
def P (a : Addr) (A : Cell) (b : Addr) (B : Cell) (args : Array Value) (s : State) : Prop := args = #[.ref a, .ref b] ∧ XT.Arr .byte a A s ∧ Typed .byte A ∧ XT.Arr .byte b B s ∧ Typed .byte B
/-- whether two byte[] are equal, place for place -/
theorem law (l : Launch) (a : Addr) (A : Cell) (b : Addr) (B : Cell) : Law l yN 2 2 0 0 yB 3 (some .boolean) site (P a A b B) (Says01 (EqC A B)) [] 0 0 := by
  refine Law.of_walk (plainFor_of_name (by decide +kernel)) (by decide +kernel) (by decide +kernel) (by decide) (fun _ _ h => by rw [h.1]; rfl) (fun _ U U' hal hh h => ⟨h.1, h.2.1.mv hal hh, h.2.2.1, h.2.2.2.1.mv hal hh, h.2.2.2.2⟩) (fun r U U' V V' h1 hal h2 h => Says01.mv r U U' V V' h1 hal h2 h) ?_
  intro p e s m args below meth c s₁ X0 hexec hbytes hml hret hlk hnm hown hh0 W hP
  obtain ⟨rfl, hA, tA, hB, tB⟩ := hP
  have a31 := hA.2.2.2
  have b31 := hB.2.2.2
  have hA0 := hA.mv X0.warmed.alike hh0
  have hB0 := hB.mv X0.warmed.alike hh0
  have c1 : Steps p.tables e below (s₁.setTop (entryFrame m #[.ref a, .ref b] 3)) (s₁.setTop (mkF m 0 #[.val (.ref a), .val (.ref b), .unset] [])) := entry rfl
  have c2 : Steps p.tables e below (s₁.setTop (entryFrame m #[.ref a, .ref b] 3)) (s₁.setTop (mkF m 4 #[.val (.ref a), .val (.ref b), .unset] [.int (Int32.ofNat B.slots.size), .int (Int32.ofNat A.slots.size)])) := c1.trans (by
    refine XS.aloadN X0.here hexec rfl (hb hbytes d0) rfl rfl ?_
    refine X0.alen hexec hA0 rfl rfl (hb hbytes d1) ?_
    refine XS.aloadN X0.here hexec rfl (hb hbytes d2) rfl rfl ?_
    refine X0.alen hexec hB0 rfl rfl (hb hbytes d3) ?_
    exact Steps.refl _)
  by_cases hs : A.slots.size = B.slots.size
  · have c3 : Steps p.tables e below (s₁.setTop (entryFrame m #[.ref a, .ref b] 3)) (s₁.setTop (mkF m 9 #[.val (.ref a), .val (.ref b), .val (.int 0)] [])) := c2.trans (by
      refine XS.icmpNo X0.here hexec rfl (hb hbytes d4) rfl (ii_ne_f (by rw [hs])) ?_
      refine iconstV X0.here hexec rfl 0 (hb hbytes d7) (by decide) ?_
      refine XS.istoreN X0.here hexec rfl (hb hbytes d8) rfl rfl ?_
      exact Steps.refl _)
    have loop : ∀ (r i : Nat), i + r = A.slots.size → (∀ j, j < i → yv A j = yv B j) → Steps p.tables e below (s₁.setTop (entryFrame m #[.ref a, .ref b] 3)) (s₁.setTop (mkF m 9 #[.val (.ref a), .val (.ref b), .val (.int (Int32.ofNat i))] [])) → ∃ (pc : Nat) (Ls : Array Slot) (v : Int32), (pc = 25 ∨ pc = 33) ∧ ((v = 1 ∧ EqC A B) ∨ (v = 0 ∧ ¬ EqC A B)) ∧ Steps p.tables e below (s₁.setTop (entryFrame m #[.ref a, .ref b] 3)) (s₁.setTop (mkF m pc Ls [.int v])) := by
      intro r
      induction r with
      | zero =>
        intro i hi he cl
        exact ⟨33, _, 1, Or.inr rfl, Or.inl ⟨rfl, hs, fun j hj => he j (by omega)⟩, cl.trans (by
          refine XS.iloadN X0.here hexec rfl (hb hbytes d9) rfl ?_
          refine XS.aloadN X0.here hexec rfl (hb hbytes d10) rfl rfl ?_
          refine X0.alen hexec hA0 rfl rfl (hb hbytes d11) ?_
          refine XS.icmpYes X0.here hexec rfl (pc0 := 12) rfl (hb hbytes d12) rfl (ii_ge_t (nlt32 (by omega) (by omega))) (by decide) rfl ?_
          refine iconstV X0.here hexec rfl 1 (hb hbytes d32) (by decide) ?_
          exact Steps.refl _)⟩
      | succ r ih =>
        intro i hi he cl
        have c4 : Steps p.tables e below (s₁.setTop (entryFrame m #[.ref a, .ref b] 3)) (s₁.setTop (mkF m 21 #[.val (.ref a), .val (.ref b), .val (.int (Int32.ofNat i))] [.int (yv B i), .int (yv A i)])) := cl.trans (by
          refine XS.iloadN X0.here hexec rfl (hb hbytes d9) rfl ?_
          refine XS.aloadN X0.here hexec rfl (hb hbytes d10) rfl rfl ?_
          refine X0.alen hexec hA0 rfl rfl (hb hbytes d11) ?_
          refine XS.icmpNo X0.here hexec rfl (hb hbytes d12) rfl (ii_ge_f (lt32 (by omega) (by omega))) ?_
          refine XS.aloadN X0.here hexec rfl (hb hbytes d15) rfl rfl ?_
          refine XS.iloadN X0.here hexec rfl (hb hbytes d16) rfl ?_
          refine X0.aget hexec hA0 rfl (yv_get hA tA (i := i) (by omega)) rfl rfl (hb hbytes d17) ?_
          refine XS.aloadN X0.here hexec rfl (hb hbytes d18) rfl rfl ?_
          refine XS.iloadN X0.here hexec rfl (hb hbytes d19) rfl ?_
          refine X0.aget hexec hB0 rfl (yv_get hB tB (i := i) (by omega)) rfl rfl (hb hbytes d20) ?_
          exact Steps.refl _)
        by_cases hv : yv A i = yv B i
        · have c5 : Steps p.tables e below (s₁.setTop (entryFrame m #[.ref a, .ref b] 3)) (s₁.setTop (mkF m 9 #[.val (.ref a), .val (.ref b), .val (.int (Int32.ofNat i + 1))] [])) := c4.trans (by
            refine XS.icmpYes X0.here hexec rfl (pc0 := 21) rfl (hb hbytes d21) rfl (ii_eq_t hv) (by decide) rfl ?_
            refine iincV X0.here hexec rfl 1 (hb hbytes d26) (by decide) rfl rfl ?_
            refine XS.goto X0.here hexec rfl (pc0 := 29) rfl (hb hbytes d29) (by decide) rfl ?_
            exact Steps.refl _)
          rw [succ32] at c5
          exact ih (i + 1) (by omega) (fun j hj => by
            by_cases e : j = i
            · rw [e]; exact hv
            · exact he j (by omega)) c5
        · exact ⟨25, _, 0, Or.inl rfl, Or.inr ⟨rfl, fun q => hv (q.2 i (by omega))⟩, c4.trans (by
            refine XS.icmpNo X0.here hexec rfl (hb hbytes d21) rfl (ii_eq_f hv) ?_
            refine iconstV X0.here hexec rfl 0 (hb hbytes d24) (by decide) ?_
            exact Steps.refl _)⟩
    obtain ⟨pc, Ls, v, hpc, hv, cz⟩ := loop A.slots.size 0 (by omega) (fun j hj => absurd hj (Nat.not_lt_zero j)) c3
    have nv : narrow .boolean (.int v) = .int v := by rcases hv with ⟨rfl, -⟩ | ⟨rfl, -⟩ <;> rfl
    rcases hpc with rfl | rfl
    · exact ⟨s₁, some (.int v), _, _, _, X0, rfl, rfl, rfl, (fun h => by cases h), ⟨v, rfl, hh0, hv⟩, fun fs hl => cz.trans (X0.ireturnOut hexec hret nv (Or.inr (Or.inl rfl)) (hb hbytes d25) hl)⟩
    · exact ⟨s₁, some (.int v), _, _, _, X0, rfl, rfl, rfl, (fun h => by cases h), ⟨v, rfl, hh0, hv⟩, fun fs hl => cz.trans (X0.ireturnOut hexec hret nv (Or.inr (Or.inl rfl)) (hb hbytes d33) hl)⟩
  · have c3 : Steps p.tables e below (s₁.setTop (entryFrame m #[.ref a, .ref b] 3)) (s₁.setTop (mkF m 35 #[.val (.ref a), .val (.ref b), .unset] [.int 0])) := c2.trans (by
      refine XS.icmpYes X0.here hexec rfl (pc0 := 4) rfl (hb hbytes d4) rfl (ii_ne_t (ne32 a31 b31 hs)) (by decide) rfl ?_
      refine iconstV X0.here hexec rfl 0 (hb hbytes d34) (by decide) ?_
      exact Steps.refl _)
    exact ⟨s₁, some (.int 0), _, _, _, X0, rfl, rfl, rfl, (fun h => by cases h), ⟨0, rfl, hh0, Or.inr ⟨rfl, fun q => hs q.1⟩⟩, fun fs hl => c3.trans (X0.ireturnOut hexec hret rfl (Or.inr (Or.inl rfl)) (hb hbytes d35) hl)⟩
end LEq
theorem Cod.ty {cd : Int32} {n : Nat} {f : Nat → Int32} {V : Cell} (h : Cod cd n f V) : Typed .byte V := fun i v hv => by
  have hi : i < V.slots.size := (Array.getElem?_eq_some_iff.mp hv).1
  rcases h with ⟨-, k1, k2⟩ | ⟨-, k1, k2, -⟩
  · rw [(k2 i (by omega)).1] at hv; cases hv; exact fits_lo8 _
  · rcases Nat.mod_two_eq_zero_or_one i with e | e
    · obtain ⟨j, rfl⟩ : ∃ j, i = 2 * j := ⟨i / 2, by omega⟩
      rw [(k2 j (by omega)).1] at hv; cases hv; exact fits_lo8 _
    · obtain ⟨j, rfl⟩ : ∃ j, i = 2 * j + 1 := ⟨i / 2, by omega⟩
      rw [(k2 j (by omega)).2] at hv; cases hv; exact fits_lo8 _
/-- the same text -/
def SameT (n : Nat) (f : Nat → Int32) (k : Nat) (g : Nat → Int32) : Prop := n = k ∧ ∀ j, j < n → f j = g j
theorem lo8_inj {x y : Int32} (h0 : ¬ x < 0) (h1 : ¬ 255 < x) (k0 : ¬ y < 0) (k1 : ¬ 255 < y) (h : lo8 x = lo8 y) : x = y := by
  rw [← lo8_mask h0 h1, ← lo8_mask k0 k1, h]
/-- arrays coded by one coder are equal just where the texts are -/
theorem Cod.eqv {cd : Int32} {n k : Nat} {f g : Nat → Int32} {V V' : Cell} (h : Cod cd n f V) (h' : Cod cd k g V') (hf : ∀ j, j < n → ¬ f j < 0 ∧ ¬ 65535 < f j) (hg : ∀ j, j < k → ¬ g j < 0 ∧ ¬ 65535 < g j) : EqC V V' ↔ SameT n f k g := by
  have yvv : ∀ {W : Cell} {i : Nat} {x : Int32}, W.slots[i]? = some (.int x) → yv W i = x := fun q => by unfold yv; rw [q]
  rcases h with ⟨rfl, k1, k2⟩ | ⟨rfl, k1, k2, -⟩
  · rcases h' with ⟨-, m1, m2⟩ | ⟨e, -⟩
    · constructor
      · rintro ⟨e1, e2⟩
        refine ⟨by omega, fun j hj => ?_⟩
        have q := e2 j (by omega)
        rw [yvv (k2 j hj).1, yvv (m2 j (by omega)).1] at q
        exact lo8_inj (hf j hj).1 (k2 j hj).2 (hg j (by omega)).1 (m2 j (by omega)).2 q
      · rintro ⟨rfl, e2⟩
        refine ⟨by omega, fun j hj => ?_⟩
        rw [yvv (k2 j (by omega)).1, yvv (m2 j (by omega)).1, e2 j (by omega)]
    · exact absurd e (by decide)
  · rcases h' with ⟨e, -⟩ | ⟨-, m1, m2, -⟩
    · exact absurd e (by decide)
    · constructor
      · rintro ⟨e1, e2⟩
        refine ⟨by omega, fun j hj => ?_⟩
        have q1 := e2 (2 * j) (by omega)
        have q2 := e2 (2 * j + 1) (by omega)
        rw [yvv (k2 j hj).1, yvv (m2 j (by omega)).1] at q1
        rw [yvv (k2 j hj).2, yvv (m2 j (by omega)).2] at q2
        rw [← pair_says (hf j hj).1 (hf j hj).2, ← pair_says (hg j (by omega)).1 (hg j (by omega)).2, q1, q2]
      · rintro ⟨rfl, e2⟩
        refine ⟨by omega, fun i hi => ?_⟩
        rcases Nat.mod_two_eq_zero_or_one i with e | e
        · obtain ⟨j, rfl⟩ : ∃ j, i = 2 * j := ⟨i / 2, by omega⟩
          rw [yvv (k2 j (by omega)).1, yvv (m2 j (by omega)).1, e2 j (by omega)]
        · obtain ⟨j, rfl⟩ : ∃ j, i = 2 * j + 1 := ⟨i / 2, by omega⟩
          rw [yvv (k2 j (by omega)).2, yvv (m2 j (by omega)).2, e2 j (by omega)]
/-- two codings differ: so do the texts -/
theorem Cod.dif {cd cd' : Int32} {n k : Nat} {f g : Nat → Int32} {V V' : Cell} (h : Cod cd n f V) (h' : Cod cd' k g V') (hne : ¬ cd = cd') : ¬ SameT n f k g := by
  rintro ⟨rfl, e⟩
  rcases h with ⟨rfl, -, k2⟩ | ⟨rfl, -, -, j, hj, hw⟩
  · rcases h' with ⟨rfl, -⟩ | ⟨-, -, -, j, hj, hw⟩
    · exact hne rfl
    · exact (k2 j hj).2 (by rw [e j hj]; exact hw)
  · rcases h' with ⟨-, -, m2⟩ | ⟨rfl, -⟩
    · exact (m2 j hj).2 (by rw [← e j hj]; exact hw)
    · exact hne rfl
/-- an object of exactly C is an instance of C -/
theorem cinst {p : Program} {l : Launch} {e : Env} {R : Room} {s : State} {m : MethodId} {args : Array Value} {below : List Frame} {meth : Method} {c : Code} {T : State} {locs : List Loc} {cells slots : Nat} (X : Stand p l e R s m args below meth c T locs cells slots) (hexec : p.tables.exec = Jvm.exec) {own C : String} {index : Nat} (hown : s.vm.findClass own = some m.cls) (hlink : (Cond.classLink own index C).before args s = true) {a : Addr} (hE : Exact C a T)
    {g : JFrame} (hg : g.method = m) {rest : List Value} (hstack : g.stack = .ref a :: rest) (hdg : decode c.code g.pc = .ok (.instanceof index, 3)) :
    ∃ T', Stand p l e R s m args below meth c T' locs cells slots ∧ T'.heap = T.heap ∧ ∀ target, Steps p.tables e below (T'.setTop { g with pc := g.pc + 3, stack := .int 1 :: rest }) target → Steps p.tables e below (T.setTop g) target := by
  obtain ⟨cB, h1, D, h2, h3, h4⟩ := hE
  have h1' : s.vm.findClass C = some cB := by rw [← X.warmed.alike.findClass]; exact h1
  obtain ⟨vm', X', st⟩ := X.instanceofYes hexec hown hlink h2 h4 h1' (by rw [h3]; exact Jvm.Free.SB.assignable_self _ _) hg hstack hdg
  exact ⟨_, X', rfl, st⟩
theorem cself {p : Program} {l : Launch} {e : Env} {R : Room} {s : State} {m : MethodId} {args : Array Value} {below : List Frame} {meth : Method} {c : Code} {T : State} {locs : List Loc} {cells slots : Nat} (X : Stand p l e R s m args below meth c T locs cells slots) (hexec : p.tables.exec = Jvm.exec) {own C : String} {index : Nat} (hown : s.vm.findClass own = some m.cls) (hlink : (Cond.classLink own index C).before args s = true) {a : Addr} (hE : Exact C a T)
    {g : JFrame} (hg : g.method = m) {rest : List Value} (hstack : g.stack = .ref a :: rest) (hdg : decode c.code g.pc = .ok (.checkcast index, 3)) :
    ∃ T', Stand p l e R s m args below meth c T' locs cells slots ∧ T'.heap = T.heap ∧ ∀ target, Steps p.tables e below (T'.setTop { g with pc := g.pc + 3, stack := .ref a :: rest }) target → Steps p.tables e below (T.setTop g) target := by
  obtain ⟨cB, h1, D, h2, h3, h4⟩ := hE
  have h1' : s.vm.findClass C = some cB := by rw [← X.warmed.alike.findClass]; exact h1
  obtain ⟨vm', X', st⟩ := X.checkcastYes hexec hown hlink h2 h4 h1' (by rw [h3]; exact Jvm.Free.SB.assignable_self _ _) hg hstack hdg
  exact ⟨_, X', rfl, fun t h => st t (by rw [← hstack] at h; exact h)⟩
namespace SEq
def yN : MethodName := ⟨"java/lang/String", "equals", "(Ljava/lang/Object;)Z"⟩
abbrev yB : ByteArray := jdk_42_method_66_code
theorem d0 : decode yB 0 = .ok (.aload_n 0, 1) := by decide +kernel
theorem d1 : decode yB 1 = .ok (.aload_n 1, 1) := by decide +kernel
theorem d2 : decode yB 2 = .ok (.if_acmp (.ne) 5, 3) := by decide +kernel
theorem d5 : decode yB 5 = .ok (.iconst 1, 1) := by decide +kernel
theorem d6 : decode yB 6 = .ok (.ireturn, 1) := by decide +kernel
theorem d7 : decode yB 7 = .ok (.aload_n 1, 1) := by decide +kernel
theorem d8 : decode yB 8 = .ok (.instanceof 10, 3) := by decide +kernel
theorem d11 : decode yB 11 = .ok (.ifCond (.eq) 43, 3) := by decide +kernel
theorem d14 : decode yB 14 = .ok (.aload_n 1, 1) := by decide +kernel
theorem d15 : decode yB 15 = .ok (.checkcast 10, 3) := by decide +kernel
theorem d18 : decode yB 18 = .ok (.astore_n 2, 1) := by decide +kernel
theorem d19 : decode yB 19 = .ok (.getstatic 38, 3) := by decide +kernel
theorem d22 : decode yB 22 = .ok (.ifCond (.eq) 14, 3) := by decide +kernel
theorem d25 : decode yB 25 = .ok (.aload_n 0, 1) := by decide +kernel
theorem d26 : decode yB 26 = .ok (.getfield 15, 3) := by decide +kernel
theorem d29 : decode yB 29 = .ok (.aload_n 2, 1) := by decide +kernel
theorem d30 : decode yB 30 = .ok (.getfield 15, 3) := by decide +kernel
theorem d33 : decode yB 33 = .ok (.if_icmp (.ne) 21, 3) := by decide +kernel
theorem d36 : decode yB 36 = .ok (.aload_n 0, 1) := by decide +kernel
theorem d37 : decode yB 37 = .ok (.getfield 9, 3) := by decide +kernel
theorem d40 : decode yB 40 = .ok (.aload_n 2, 1) := by decide +kernel
theorem d41 : decode yB 41 = .ok (.getfield 9, 3) := by decide +kernel
theorem d44 : decode yB 44 = .ok (.invokestatic 541, 3) := by decide +kernel
theorem d47 : decode yB 47 = .ok (.ifCond (.eq) 7, 3) := by decide +kernel
theorem d50 : decode yB 50 = .ok (.iconst 1, 1) := by decide +kernel
theorem d51 : decode yB 51 = .ok (.goto 4, 3) := by decide +kernel
theorem d54 : decode yB 54 = .ok (.iconst 0, 1) := by decide +kernel
theorem d55 : decode yB 55 = .ok (.ireturn, 1) := by decide +kernel
def site : List Cond := [.classLink "java/lang/String" 10 "java/lang/String", .fieldLink "java/lang/String" 38 "java/lang/String" "COMPACT_STRINGS" "Z", .fieldLink "java/lang/String" 15 "java/lang/String" "coder" "B", .fieldLink "java/lang/String" 9 "java/lang/String" "value" "[B", LEq.tab] ++ staticW "java/lang/String" 541 LEq.yN
def tab : Cond := tabOf yN yB 3 (some .boolean) site
def P (x t : Addr) (V : Cell) (cd : Int32) (n : Nat) (f : Nat → Int32) (y t' : Addr) (V' : Cell) (cd' : Int32) (k : Nat) (g : Nat → Int32) (z : Int32) (args : Array Value) (s : State) : Prop := args = #[.ref x, .ref y] ∧ Txt x t V cd n f s ∧ Txt y t' V' cd' k g s ∧ StaticIs s "java/lang/String" "COMPACT_STRINGS" "Z" (.int z) ∧ ¬ z = 0
/-- equals(Object) of two Strings: whether the texts are the same -/
theorem law (l : Launch) (x t : Addr) (V : Cell) (cd : Int32) (n : Nat) (f : Nat → Int32) (y t' : Addr) (V' : Cell) (cd' : Int32) (k : Nat) (g : Nat → Int32) (z : Int32) : Law l yN 2 1 1 14 yB 3 (some .boolean) site (P x t V cd n f y t' V' cd' k g z) (Says01 (SameT n f k g)) [] 0 0 := by
  refine Law.of_walk (plainFor_of_name (by decide +kernel)) (by decide +kernel) (by decide +kernel) (by decide) (fun _ _ h => by rw [h.1]; rfl) (fun _ U U' hal hh h => ⟨h.1, h.2.1.mv hal hh, h.2.2.1.mv hal hh, h.2.2.2.1.there hal hh, h.2.2.2.2⟩) (fun r U U' V V' h1 hal h2 h => Says01.mv r U U' V V' h1 hal h2 h) ?_
  intro p e s m args below meth c s₁ X0 hexec hbytes hml hret hlk hnm hown hh0 W hP
  obtain ⟨rfl, hx, hy, s1, hz⟩ := hP
  have c1 : Steps p.tables e below (s₁.setTop (entryFrame m #[.ref x, .ref y] 3)) (s₁.setTop (mkF m 2 #[.val (.ref x), .val (.ref y), .unset] [.ref y, .ref x])) := Steps.trans (entry rfl) (by
    show Steps p.tables e below (s₁.setTop (mkF m 0 #[.val (.ref x), .val (.ref y), .unset] [])) _
    refine XS.aloadN X0.here hexec rfl (hb hbytes d0) rfl rfl ?_
    refine XS.aloadN X0.here hexec rfl (hb hbytes d1) rfl rfl ?_
    exact Steps.refl _)
  by_cases hxy : x = y
  · have c2 : Steps p.tables e below (s₁.setTop (entryFrame m #[.ref x, .ref y] 3)) (s₁.setTop (mkF m 6 #[.val (.ref x), .val (.ref y), .unset] [.int 1])) := c1.trans (by
      refine acmpNo X0.here hexec rfl (hb hbytes d2) rfl rfl rfl (by simp [acmp, hxy]) ?_
      refine iconstV X0.here hexec rfl 1 (hb hbytes d5) (by decide) ?_
      exact Steps.refl _)
    subst hxy
    have ec : cd = cd' := by
      obtain ⟨D, fd, a1, a2, a3⟩ := hx.2.2.1
      obtain ⟨D', fd', b1, b2, b3⟩ := hy.2.2.1
      cases a1.symm.trans b1
      obtain ⟨q1, q2, q3, q4⟩ := a2.1
      obtain ⟨r1, r2, r3, r4⟩ := b2.1
      cases q4.symm.trans r4
      cases a3.symm.trans b3; rfl
    have et : t = t' := by
      obtain ⟨D, fd, a1, a2, a3⟩ := hx.2.1
      obtain ⟨D', fd', b1, b2, b3⟩ := hy.2.1
      cases a1.symm.trans b1
      obtain ⟨q1, q2, q3, q4⟩ := a2.1
      obtain ⟨r1, r2, r3, r4⟩ := b2.1
      cases q4.symm.trans r4
      cases a3.symm.trans b3; rfl
    subst ec et
    have ev : V = V' := by cases hx.2.2.2.1.1.symm.trans hy.2.2.2.1.1; rfl
    subst ev
    have hs : SameT n f k g := (Cod.eqv hx.2.2.2.2.1 hy.2.2.2.2.1 hx.2.2.2.2.2 hy.2.2.2.2.2).mp ⟨rfl, fun _ _ => rfl⟩
    exact ⟨s₁, some (.int 1), _, _, _, X0, rfl, rfl, rfl, (fun h => by cases h), ⟨1, rfl, hh0, Or.inl ⟨rfl, hs⟩⟩, fun fs hl => c2.trans (X0.ireturnOut hexec hret rfl (Or.inr (Or.inl rfl)) (hb hbytes d6) hl)⟩
  · have c2 : Steps p.tables e below (s₁.setTop (entryFrame m #[.ref x, .ref y] 3)) (s₁.setTop (mkF m 8 #[.val (.ref x), .val (.ref y), .unset] [.ref y])) := c1.trans (by
      refine acmpYes X0.here hexec rfl (pc0 := 2) rfl (hb hbytes d2) rfl rfl rfl (by simp [acmp, hxy]) (by decide) rfl ?_
      refine XS.aloadN X0.here hexec rfl (hb hbytes d7) rfl rfl ?_
      exact Steps.refl _)
    obtain ⟨T3, X3, q3, st3⟩ := cinst X0 hexec hown (wk W (.classLink "java/lang/String" 10 "java/lang/String")) (hy.mv X0.warmed.alike hh0).1 (g := (mkF m 8 #[.val (.ref x), .val (.ref y), .unset] [.ref y])) rfl (rest := []) rfl (hb hbytes d8)
    have hh3 := q3.trans hh0
    have c4 : Steps p.tables e below (s₁.setTop (entryFrame m #[.ref x, .ref y] 3)) (T3.setTop (mkF m 15 #[.val (.ref x), .val (.ref y), .unset] [.ref y])) := (c2.trans (st3 _ (Steps.refl _))).trans (by
      refine XS.ifNo X3.here hexec rfl (hb hbytes d11) rfl (i0_eq_f (by decide)) ?_
      refine XS.aloadN X3.here hexec rfl (hb hbytes d14) rfl rfl ?_
      exact Steps.refl _)
    obtain ⟨T5, X5, q5, st5⟩ := cself X3 hexec hown (wk W (.classLink "java/lang/String" 10 "java/lang/String")) (hy.mv X3.warmed.alike hh3).1 (g := (mkF m 15 #[.val (.ref x), .val (.ref y), .unset] [.ref y])) rfl (rest := []) rfl (hb hbytes d15)
    have hh5 := q5.trans hh3
    have c6 : Steps p.tables e below (s₁.setTop (entryFrame m #[.ref x, .ref y] 3)) (T5.setTop (mkF m 19 #[.val (.ref x), .val (.ref y), .val (.ref y)] [])) := (c4.trans (st5 _ (Steps.refl _))).trans (by
      refine XS.astoreN X5.here hexec rfl (hb hbytes d18) rfl rfl rfl ?_
      exact Steps.refl _)
    obtain ⟨T7, X7, q7, st7⟩ := X5.sget hexec hown (wk W (.fieldLink "java/lang/String" 38 "java/lang/String" "COMPACT_STRINGS" "Z")) s1 (fun _ _ h => by rw [hh5]; exact h) (g := (mkF m 19 #[.val (.ref x), .val (.ref y), .val (.ref y)] [])) rfl (hb hbytes d19)
    have hh7 := q7.trans hh5
    have c8 : Steps p.tables e below (s₁.setTop (entryFrame m #[.ref x, .ref y] 3)) (T7.setTop (mkF m 26 #[.val (.ref x), .val (.ref y), .val (.ref y)] [.ref x])) := (c6.trans (st7 _ (Steps.refl _))).trans (by
      refine XS.ifNo X7.here hexec rfl (hb hbytes d22) rfl (i0_eq_f hz) ?_
      refine XS.aloadN X7.here hexec rfl (hb hbytes d25) rfl rfl ?_
      exact Steps.refl _)
    obtain ⟨T9, X9, q9, st9⟩ := X7.hget hexec hown (wk W (.fieldLink "java/lang/String" 15 "java/lang/String" "coder" "B")) (hx.mv X7.warmed.alike hh7).2.2.1 (g := (mkF m 26 #[.val (.ref x), .val (.ref y), .val (.ref y)] [.ref x])) rfl (rest := []) rfl (hb hbytes d26)
    have hh9 := q9.trans hh7
    have c10 : Steps p.tables e below (s₁.setTop (entryFrame m #[.ref x, .ref y] 3)) (T9.setTop (mkF m 30 #[.val (.ref x), .val (.ref y), .val (.ref y)] [.ref y, .int cd])) := (c8.trans (st9 _ (Steps.refl _))).trans (by
      refine XS.aloadN X9.here hexec rfl (hb hbytes d29) rfl rfl ?_
      exact Steps.refl _)
    obtain ⟨T11, X11, q11, st11⟩ := X9.hget hexec hown (wk W (.fieldLink "java/lang/String" 15 "java/lang/String" "coder" "B")) (hy.mv X9.warmed.alike hh9).2.2.1 (g := (mkF m 30 #[.val (.ref x), .val (.ref y), .val (.ref y)] [.ref y, .int cd])) rfl (rest := [.int cd]) rfl (hb hbytes d30)
    have hh11 := q11.trans hh9
    have c12 : Steps p.tables e below (s₁.setTop (entryFrame m #[.ref x, .ref y] 3)) (T11.setTop (mkF m 33 #[.val (.ref x), .val (.ref y), .val (.ref y)] [.int cd', .int cd])) := c10.trans (st11 _ (Steps.refl _))
    by_cases hcd : cd = cd'
    · subst hcd
      have c13 : Steps p.tables e below (s₁.setTop (entryFrame m #[.ref x, .ref y] 3)) (T11.setTop (mkF m 37 #[.val (.ref x), .val (.ref y), .val (.ref y)] [.ref x])) := c12.trans (by
        refine XS.icmpNo X11.here hexec rfl (hb hbytes d33) rfl (ii_ne_f rfl) ?_
        refine XS.aloadN X11.here hexec rfl (hb hbytes d36) rfl rfl ?_
        exact Steps.refl _)
      obtain ⟨T14, X14, q14, st14⟩ := X11.hget hexec hown (wk W (.fieldLink "java/lang/String" 9 "java/lang/String" "value" "[B")) (hx.mv X11.warmed.alike hh11).2.1 (g := (mkF m 37 #[.val (.ref x), .val (.ref y), .val (.ref y)] [.ref x])) rfl (rest := []) rfl (hb hbytes d37)
      have hh14 := q14.trans hh11
      have c15 : Steps p.tables e below (s₁.setTop (entryFrame m #[.ref x, .ref y] 3)) (T14.setTop (mkF m 41 #[.val (.ref x), .val (.ref y), .val (.ref y)] [.ref y, .ref t])) := (c13.trans (st14 _ (Steps.refl _))).trans (by
        refine XS.aloadN X14.here hexec rfl (hb hbytes d40) rfl rfl ?_
        exact Steps.refl _)
      obtain ⟨T16, X16, q16, st16⟩ := X14.hget hexec hown (wk W (.fieldLink "java/lang/String" 9 "java/lang/String" "value" "[B")) (hy.mv X14.warmed.alike hh14).2.1 (g := (mkF m 41 #[.val (.ref x), .val (.ref y), .val (.ref y)] [.ref y, .ref t])) rfl (rest := [.ref t]) rfl (hb hbytes d41)
      have hh16 := q16.trans hh14
      have c17 : Steps p.tables e below (s₁.setTop (entryFrame m #[.ref x, .ref y] 3)) (T16.setTop (mkF m 44 #[.val (.ref x), .val (.ref y), .val (.ref y)] [.ref t', .ref t])) := c15.trans (st16 _ (Steps.refl _))
      obtain ⟨v18, T18, X18, E18, g18⟩ := X16.callS hexec (LEq.law l t V t' V') hown (wks W (staticW "java/lang/String" 541 LEq.yN)) (wk W LEq.tab) (W := 0) (Nat.le_of_ble_eq_true rfl) (Nat.le_of_ble_eq_true rfl) (Nat.le_refl _) (Nat.le_refl _) (g := (mkF m 44 #[.val (.ref x), .val (.ref y), .val (.ref y)] [.ref t', .ref t])) rfl (by rw [hml]; rfl) c17 (argsL := [.ref t, .ref t']) (rest := []) rfl rfl (by show 2 * 0 + 0 ≤ _; decide) (hb hbytes d44) (⟨rfl, hx.2.2.2.1.mv X16.warmed.alike hh16, hx.2.2.2.2.1.ty, hy.2.2.2.1.mv X16.warmed.alike hh16, hy.2.2.2.2.1.ty⟩)
      obtain ⟨v, rfl, q18, hv⟩ := E18
      have iff := Cod.eqv hx.2.2.2.2.1 hy.2.2.2.2.1 hx.2.2.2.2.2 hy.2.2.2.2.2
      rcases hv with ⟨rfl, he⟩ | ⟨rfl, he⟩
      · have c19 : Steps p.tables e below (s₁.setTop (entryFrame m #[.ref x, .ref y] 3)) (T18.setTop (mkF m 55 #[.val (.ref x), .val (.ref y), .val (.ref y)] [.int 1])) := Steps.trans g18 (by
          refine XS.ifNo X18.here hexec rfl (hb hbytes d47) rfl (i0_eq_f (by decide)) ?_
          refine iconstV X18.here hexec rfl 1 (hb hbytes d50) (by decide) ?_
          refine XS.goto X18.here hexec rfl (pc0 := 51) rfl (hb hbytes d51) (by decide) rfl ?_
          exact Steps.refl _)
        exact ⟨T18, some (.int 1), _, _, _, X18, rfl, rfl, rfl, (fun h => by cases h), ⟨1, rfl, q18.trans hh16, Or.inl ⟨rfl, iff.mp he⟩⟩, fun fs hl => c19.trans (X18.ireturnOut hexec hret rfl (Or.inr (Or.inl rfl)) (hb hbytes d55) hl)⟩
      · have c19 : Steps p.tables e below (s₁.setTop (entryFrame m #[.ref x, .ref y] 3)) (T18.setTop (mkF m 55 #[.val (.ref x), .val (.ref y), .val (.ref y)] [.int 0])) := Steps.trans g18 (by
          refine XS.ifYes X18.here hexec rfl (pc0 := 47) rfl (hb hbytes d47) rfl (i0_eq_t rfl) (by decide) rfl ?_
          refine iconstV X18.here hexec rfl 0 (hb hbytes d54) (by decide) ?_
          exact Steps.refl _)
        exact ⟨T18, some (.int 0), _, _, _, X18, rfl, rfl, rfl, (fun h => by cases h), ⟨0, rfl, q18.trans hh16, Or.inr ⟨rfl, fun q => he (iff.mpr q)⟩⟩, fun fs hl => c19.trans (X18.ireturnOut hexec hret rfl (Or.inr (Or.inl rfl)) (hb hbytes d55) hl)⟩
    · have c13 : Steps p.tables e below (s₁.setTop (entryFrame m #[.ref x, .ref y] 3)) (T11.setTop (mkF m 55 #[.val (.ref x), .val (.ref y), .val (.ref y)] [.int 0])) := c12.trans (by
        refine XS.icmpYes X11.here hexec rfl (pc0 := 33) rfl (hb hbytes d33) rfl (ii_ne_t hcd) (by decide) rfl ?_
        refine iconstV X11.here hexec rfl 0 (hb hbytes d54) (by decide) ?_
        exact Steps.refl _)
      exact ⟨T11, some (.int 0), _, _, _, X11, rfl, rfl, rfl, (fun h => by cases h), ⟨0, rfl, hh11, Or.inr ⟨rfl, Cod.dif hx.2.2.2.2.1 hy.2.2.2.2.1 hcd⟩⟩, fun fs hl => c13.trans (X11.ireturnOut hexec hret rfl (Or.inr (Or.inl rfl)) (hb hbytes d55) hl)⟩
theorem pays {l : Launch} {R : Room} {p : Program} {e : Env} {below : List Frame} {s : State} {sargs : Array Value} {len W : Nat} (x t : Addr) (V : Cell) (cd : Int32) (n : Nat) (f : Nat → Int32) (y t' : Addr) (V' : Cell) (cd' : Int32) (k : Nat) (g : Nat → Int32) (z : Int32) (htab : tab.before sargs s = true) (hfr : 2 ≤ R.frames) (hlo : W + 28 ≤ R.locals) :
    Back l R p e below s sargs yN len W (fun A₁ a₁ => A₁.cells + 0 ≤ R.cells ∧ A₁.slots + 0 ≤ R.slots ∧ P x t V cd n f y t' V' cd' k g z a₁ A₁.U) (fun A₁ _ v₁ B₁ => Says01 (SameT n f k g) v₁ A₁.U B₁.U ∧ B₁.locs = A₁.locs ++ [] ∧ B₁.cells = A₁.cells + 0 ∧ B₁.slots = A₁.slots + 0) :=
  (law l x t V cd n f y t' V' cd' k g z).pays htab hfr (by omega)
end SEq
end StrChars
namespace StrChars.Road
open Jvm Sem ClassFile Op Lib Jvm.Stand Jvm.Free Jvm.Free.XT
open Jvm.Lib.Cold (StaticIs)
/-- the words of String.equals(Object) -/
abbrev wordsEq : List Jvm.Cond := [.code SEq.yN SEq.yB 3 (some .boolean), .initialized ST, .classLink ST 10 ST, .fieldLink ST 38 ST "COMPACT_STRINGS" "Z", .fieldLink ST 15 ST "coder" "B", .fieldLink ST 9 ST "value" "[B", .methodLink ST 541 LEq.yN, .static LEq.yN, .code LEq.yN LEq.yB 3 (some .boolean), .initialized "java/lang/StringLatin1"]
theorem tabEq_of {a : Array Value} {s : State} (h : ∀ w ∈ wordsEq, w.before a s = true) : SEq.tab.before a s = true := by
  have hl : LEq.tab.before a s = true := unparts (wk h (.code LEq.yN LEq.yB 3 (some .boolean))) (wks h (.initialized LEq.yN.cls :: LEq.site))
  have q := consq hl h
  exact unparts (wk q (.code SEq.yN SEq.yB 3 (some .boolean))) (wks q (.initialized SEq.yN.cls :: SEq.site))
theorem movedEq {Z s : State} {a0 args : Array Value} (hZ : Z.Warmed39 s.vm) (hw : ∀ d ∈ wordsEq, d.before a0 Z = true) : ∀ d ∈ wordsEq, d.before args s = true := fun d hd => by
  have t : ∀ d ∈ wordsEq, (d.onTables && d.keepsFace) = true := by decide +kernel
  exact RoadKit.mv hZ (hw d hd) (t d hd)
/-- the road's facts of a String, as the laws ask it -/
theorem txt_of {Z U : State} {a0 : Array Value} {kI : Nat} (wi : (Jvm.Cond.instantiable ST kI).before a0 Z = true) (al : Z.vm.Alike U.vm) {x t : Addr} {kb : ClassId} {cs : List Int32} {cd N2 : Int32} {vs : List Value} (E : RoadKit.Exa Z U.heap x ST) (V : RoadKit.Fld Z U.heap x ST "value" "[B" (.ref t)) (C : RoadKit.Fld Z U.heap x ST "coder" "B" (.int cd)) (K : RoadKit.Arv Z U.heap t kb .byte N2 vs (.int 0)) (hc : CodA cs cd N2 vs) (hb : ∀ c ∈ cs, ¬ c < 0 ∧ ¬ (65535 : Int32) < c) (l2 : cs.length ≤ 4000) :
    ∃ A, Txt x t A cd cs.length (fun j => cs.getD j 0) U := by
  obtain ⟨A, K1, K2, K3, K4, K5, K6⟩ := K
  have hcod := hc.cod (by omega) K3 K5
  obtain ⟨D, fV, fC, hB, F1, F2, g1, g2, -, -⟩ := strObj wi al E V C
  exact ⟨A, ⟨_, hB.2.2.1, D, hB.1, rfl, by cases q : D.vm <;> first | rfl | exact absurd q (hB.2.1.2 _)⟩, Has.of hB F1 g1, Has.of hB F2 g2, ⟨K1.1, State.isArrayOf_alike al K1.2.1, K1.2.2, by rcases hcod with ⟨-, q, -⟩ | ⟨-, q, -⟩ <;> omega⟩, hcod, fun j hj => by
    have e : cs.getD j 0 = cs[j] := by simp [List.getD_eq_getElem?_getD, hj]
    show ¬ cs.getD j 0 < 0 ∧ ¬ 65535 < cs.getD j 0
    rw [e]; exact hb _ (List.getElem_mem _)⟩
theorem same_list (cs ds : List Int32) : SameT cs.length (fun j => cs.getD j 0) ds.length (fun j => ds.getD j 0) ↔ cs = ds := by
  constructor
  · rintro ⟨e, q⟩
    refine List.ext_getElem e fun j h1 h2 => ?_
    have := q j h1
    simpa [List.getD_eq_getElem?_getD, h1, h2] using this
  · rintro rfl
    exact ⟨rfl, fun _ _ => rfl⟩
/-- **equals(Object) OF TWO SUCH STRINGS**: 1 just where the chars are the same -/
theorem eqW {p : Program} {l : Launch} {e : Env} {R : Room} {s : State} {args : Array Value} {below : List Frame} {len W : Nat} {Z : State} {a0 : Array Value} {h : Heap} (hZ : Z.Warmed39 s.vm) (hw : ∀ d ∈ wordsEq, d.before a0 Z = true) {kI : Nat} (wi : (Jvm.Cond.instantiable ST kI).before a0 Z = true)
    {x t : Addr} {kb : ClassId} {cs : List Int32} {cd N2 : Int32} {vs : List Value} (E : RoadKit.Exa Z h x ST) (V : RoadKit.Fld Z h x ST "value" "[B" (.ref t)) (C : RoadKit.Fld Z h x ST "coder" "B" (.int cd)) (K : RoadKit.Arv Z h t kb .byte N2 vs (.int 0)) (hc : CodA cs cd N2 vs) (hb : ∀ c ∈ cs, ¬ c < 0 ∧ ¬ (65535 : Int32) < c) (l2 : cs.length ≤ 4000)
    {y t' : Addr} {kb' : ClassId} {ds : List Int32} {cd' N2' : Int32} {vs' : List Value} (E' : RoadKit.Exa Z h y ST) (V' : RoadKit.Fld Z h y ST "value" "[B" (.ref t')) (C' : RoadKit.Fld Z h y ST "coder" "B" (.int cd')) (K' : RoadKit.Arv Z h t' kb' .byte N2' vs' (.int 0)) (hc' : CodA ds cd' N2' vs') (hb' : ∀ c ∈ ds, ¬ c < 0 ∧ ¬ (65535 : Int32) < c) (l2' : ds.length ≤ 4000)
    {z : Int32} (S : RoadKit.Sta Z h ST "COMPACT_STRINGS" "Z" (.int z)) (hz : ¬ z = 0) (hfr : 2 ≤ R.frames) (hlo : W + 28 ≤ R.locals) :
    Back l R p e below s args (⟨"java/lang/String", "equals", "(Ljava/lang/Object;)Z"⟩ : MethodName) len W (fun P a => a = #[.ref x, .ref y] ∧ P.U.heap = h ∧ P.cells + 0 ≤ R.cells ∧ P.slots + 0 ≤ R.slots)
      (fun P _ v B => ∃ L, (((v = some (.int 1) ∧ cs = ds) ∨ (v = some (.int 0) ∧ ¬ cs = ds)) ∧ L = [] ∧ B.U.heap = h) ∧ B.locs = P.locs ++ L ∧ B.cells = P.cells + 0 ∧ B.slots = P.slots + 0) := by
  intro m meth c P g ig mk a X hg hsize hdg hW hn hp'
  obtain ⟨rfl, rfl, r1, r2⟩ := hp'
  have al : Z.vm.Alike P.U.vm := hZ.alike.trans X.warmed.alike
  obtain ⟨A, hx⟩ := txt_of wi al E V C K hc hb l2
  obtain ⟨A', hy⟩ := txt_of wi al E' V' C' K' hc' hb' l2'
  obtain ⟨v, B, X', ⟨⟨w, hv, hh, hq⟩, hl, hk, hs⟩, st⟩ := SEq.pays x t A cd cs.length (fun j => cs.getD j 0) y t' A' cd' ds.length (fun j => ds.getD j 0) z (tabEq_of (movedEq hZ hw)) hfr hlo m meth c P g ig mk _ X hg hsize hdg hW hn ⟨r1, r2, rfl, hx, hy, sta_is al S, hz⟩
  refine ⟨v, B, X', ⟨[], ⟨?_, rfl, hh⟩, hl, hk, hs⟩, st⟩
  rcases hq with ⟨rfl, q⟩ | ⟨rfl, q⟩
  · exact Or.inl ⟨hv, (same_list cs ds).mp q⟩
  · exact Or.inr ⟨hv, fun e => q ((same_list cs ds).mpr e)⟩
end StrChars.Road
namespace StrChars.Road
open Jvm Sem ClassFile Op Lib Jvm.Stand Jvm.Free Jvm.Free.XT
open Jvm.Lib.Cold (StaticIs)
/-- what backV says of its String, as the contracts of this text ask it: cs's low bytes, coder 0 -/
theorem codOf {cs : List Int32} {n : Nat} (hn : cs.length = n) (hb : ∀ c ∈ cs, ¬ 255 < c) : CodA cs 0 (Int32.ofNat n) ((cs.map lo8).map Value.int) := Or.inl ⟨rfl, by rw [hn], by simp [List.map_map, Function.comp_def], hb⟩
end StrChars.Road
end Jvm.Pilot.@@N@@
namespace Jvm.Pilot.@@N@@
open Jvm Jvm.ClassFile Sem Op Lib Jvm.Free Jvm.Stand Jvm.LawKit Jvm.RoadKit Bundle Jvm.OwnK
/-! Strings whose chars are below 256, own text over the pasted laws -/
def Str (Z : State) (h : Heap) (x : Addr) (cs : List Int32) : Prop :=
  Exa Z h x "java/lang/String" ∧ Fld Z h x "java/lang/String" "coder" "B" (.int 0) ∧ (∃ (b : Addr) (k : ClassId), Fld Z h x "java/lang/String" "value" "[B" (.ref b) ∧ Arv Z h b k .byte (Int32.ofNat cs.length) ((cs.map StrChars.lo8).map Value.int) (.int 0)) ∧ (∀ c ∈ cs, ¬ c < 0 ∧ ¬ (255 : Int32) < c) ∧ cs.length ≤ 4000
section Strs
variable {Z : State} {EL : List (String × Nat)} {nI : Bool} {a0 : Array Value} {l : Launch} {R : Room} {W : List Addr} {h h' : Heap} {Wt : Nat} {x b : Addr} {cs ds : List Int32} {z : Int32}
theorem Str.ext (F : Str Z h x cs) (E : Ext h h') : Str Z h' x cs := by
  obtain ⟨f1, f2, ⟨b, k, f3, f4⟩, f5⟩ := F
  exact ⟨f1.ext E, f2.ext E, ⟨b, k, f3.ext E, f4.ext E⟩, f5⟩
theorem Str.keep1 {a : Addr} {C : String} {n : Nat} (F : Str Z h x cs) (K : Keep h h' [a]) (E : Exa Z h a C) (wi : (Jvm.Cond.instantiable C n).before a0 Z = true) (hC : C ≠ "java/lang/String") : Str Z h' x cs := by
  obtain ⟨f1, f2, ⟨b, k, f3, f4⟩, f5⟩ := F
  have n1 : x ∉ [a] := ninS (f1.ne E (Ne.symm hC)) nin0
  have n2 : b ∉ [a] := ninS (E.neArv f4 wi).symm nin0
  exact ⟨f1.keep K, f2.keep K n1, ⟨b, k, f3.keep K n1, f4.keep K n2⟩, f5⟩
theorem Str.lt (F : Str Z h x cs) : x < h.size := F.1.lt
theorem up255 (hp : ∀ c ∈ cs, ¬ c < 0 ∧ ¬ (255 : Int32) < c) : ∀ c ∈ cs, ¬ c < 0 ∧ ¬ (65535 : Int32) < c := fun c hc => ⟨(hp c hc).1, fun q => (hp c hc).2 (Int32.lt_trans (by decide) q)⟩
theorem cal_eq (heq : ∀ d ∈ StrChars.Road.wordsEq, d.before a0 Z = true) (wi : (Jvm.Cond.instantiable "java/lang/String" 4).before a0 Z = true) {y : Addr} (F : Str Z h x cs) (G : Str Z h y ds) (O2 : Sta Z Z.heap "java/lang/String" "COMPACT_STRINGS" "Z" (.int z)) (P5 : ¬ z = 0) (hfr : 2 ≤ R.frames) (hlo : Wt + 28 ≤ R.locals) :
    Cal Z EL nI a0 l R ⟨"java/lang/String", "equals", "(Ljava/lang/Object;)Z"⟩ 3 Wt #[.ref x, .ref y] h W 0 0 (fun v h' => h' = h ∧ v = some (.int (if cs = ds then 1 else 0))) := by
  obtain ⟨f1, f2, ⟨b, k, f3, f4⟩, f5, f6⟩ := F
  obtain ⟨g1, g2, ⟨b', k', g3, g4⟩, g5, g6⟩ := G
  refine Cal.of_back (Qz := fun v h' Lo => ((v = some (.int 1) ∧ cs = ds) ∨ (v = some (.int 0) ∧ ¬ cs = ds)) ∧ Lo = [] ∧ h' = h) (fun p e bl s as hZ hO => StrChars.Road.eqW (W := Wt) hZ heq wi f1 f3 f2 f4 (StrChars.Road.codOf rfl fun c hc => (f5 c hc).2) (up255 f5) f6 g1 g3 g2 g4 (StrChars.Road.codOf rfl fun c hc => (g5 c hc).2) (up255 g5) g6 (O2.ext hO) P5 hfr hlo)
    (fun v h' Lo q => ⟨⟨q.2.2, ?_⟩, by rw [q.2.1]; exact Fr.nil _, [], by rw [q.2.2]; exact Keep.refl _ _, fun _ q => nomatch q⟩)
  rcases q.1 with ⟨rfl, e⟩ | ⟨rfl, e⟩
  · rw [if_pos e]
  · rw [if_neg e]
/-- new String(char[]), at least one char -/
theorem cal_new1 (hws : ∀ d ∈ StrChars.Road.words, d.before a0 Z = true) (wi : (Jvm.Cond.instantiable "java/lang/String" 4).before a0 Z = true) {v0 c0 d : Value} {kC : ClassId} {N : Int32} (hx0 : Z.heap.size ≤ x) (hm : x ∈ W) (E : Exa Z h x "java/lang/String") (V : Fld Z h x "java/lang/String" "value" "[B" v0) (C : Fld Z h x "java/lang/String" "coder" "B" c0)
    (A : Arv Z h b kC .char N (cs.map Value.int) d) (O2 : Sta Z Z.heap "java/lang/String" "COMPACT_STRINGS" "Z" (.int z)) (P5 : ¬ z = 0) (hN : N = Int32.ofNat cs.length) (l0 : 0 < cs.length) (l2 : cs.length ≤ 4000) (hp : ∀ c ∈ cs, ¬ c < 0 ∧ ¬ (255 : Int32) < c) (hfr : 4 ≤ R.frames) (hlo : Wt + 65 ≤ R.locals) :
    Cal Z EL nI a0 l R ⟨"java/lang/String", "<init>", "([C)V"⟩ 3 Wt #[.ref x, .ref b] h W 1 cs.length (fun v h' => v = none ∧ Str Z h' x cs ∧ Keep h h' [x]) := by
  refine Cal.of_back (Qz := StrChars.Road.QV Z x N (cs.map fun c => c.toInt8.toInt32) h Z.heap.size) (fun p e bl s as hZ hO => StrChars.Road.backV (W := Wt) (n0 := Z.heap.size) hZ hws wi hx0 hO.1 E V C A (O2.ext hO) P5 rfl hN l0 l2 hp rfl hfr hlo) (fun v h' Lo q => ?_)
  obtain ⟨q1, q2, q3, q4, q5, t, kb, -, -, -, q6, q7⟩ := q
  refine ⟨⟨q1, ⟨q4, q5, ⟨t, kb, q6, ?_⟩, hp, l2⟩, q3⟩, q2, [x], q3, fun y hy => ?_⟩
  · rw [hN] at q7; exact q7
  · cases List.mem_singleton.mp hy; exact ⟨hx0, sfW hm⟩
end Strs
end Jvm.Pilot.@@N@@
namespace Jvm.Pilot.@@N@@
open Jvm Jvm.ClassFile Sem Op Lib Jvm.Free Jvm.Stand Jvm.LawKit Jvm.RoadKit Bundle Jvm.OwnK Jvm.Pilot.@@N@@.Jvm.D
theorem pd_arr : parseMethodDescriptor "()[C" = some ⟨[], some (.array .char)⟩ := by decide +kernel
theorem pd_named : parseMethodDescriptor "(Ljava/lang/String;)Z" = some ⟨[(.object "java/lang/String")], some .boolean⟩ := by decide +kernel
theorem pd_eq : parseMethodDescriptor "(Ljava/lang/Object;)Z" = some ⟨[(.object "java/lang/Object")], some .boolean⟩ := by decide +kernel
theorem pd_val : parseMethodDescriptor "(C)Ljava/lang/String;" = some ⟨[.char], some (.object "java/lang/String")⟩ := by decide +kernel
theorem pd_can : parseMethodDescriptor "(C)Z" = some ⟨[.char], some .boolean⟩ := by decide +kernel
theorem pd_tob : parseMethodDescriptor "(C)[B" = some ⟨[.char], some (.array .byte)⟩ := by decide +kernel
theorem pd_sbb : parseMethodDescriptor "([BB)V" = some ⟨[(.array .byte), .byte], none⟩ := by decide +kernel
theorem pn_law : plainName "com/example/keelson/keelson/module/SystemBundleNamedPinLaw" = true := by first | (simp [plainName, overriddenIn]; done) | decide +kernel
theorem pn_sb : plainName "com/example/keelson/keelson/module/SystemBundle" = true := by first | (simp [plainName, overriddenIn]; done) | decide +kernel
theorem pn_l1 : plainName "java/lang/StringLatin1" = true := by first | (simp [plainName, overriddenIn]; done) | decide +kernel
def Env1 (Z : State) (a0 : Array Value) (z0 : Int32) (fm : Value) : Prop := (∀ d ∈ tables_1, d.before a0 Z = true) ∧ EW Z a0 consts_1 ∧ Sta Z Z.heap "java/lang/String" "COMPACT_STRINGS" "Z" (.int z0) ∧ ¬ z0 = 0 ∧ fm = fm
theorem g_backV {Z : State} {a0 : Array Value} (hw : ∀ d ∈ tables_1, d.before a0 Z = true) : ∀ d ∈ StrChars.Road.words, d.before a0 Z = true := fun d hd => hw d ((by decide +kernel : ∀ d ∈ StrChars.Road.words, d ∈ tables_1) d hd)
theorem g_eqW {Z : State} {a0 : Array Value} (hw : ∀ d ∈ tables_1, d.before a0 Z = true) : ∀ d ∈ StrChars.Road.wordsEq, d.before a0 Z = true := fun d hd => hw d ((by decide +kernel : ∀ d ∈ StrChars.Road.wordsEq, d ∈ tables_1) d hd)
theorem g_wS {Z : State} {a0 : Array Value} (hw : ∀ d ∈ tables_1, d.before a0 Z = true) : ∀ d ∈ Bundle.stringAtoms, d.before a0 Z = true := fun d hd => hw d ((by decide +kernel : ∀ d ∈ Bundle.stringAtoms, d ∈ tables_1) d hd)
theorem pn_str : plainName "java/lang/String" = true := by first | (simp [plainName, overriddenIn]; done) | decide +kernel
theorem pd_s4 : parseMethodDescriptor "([CIILjava/lang/Void;)V" = some ⟨[(.array .char), .int, .int, (.object "java/lang/Void")], none⟩ := by decide +kernel
theorem pd_s1 : parseMethodDescriptor "([C)V" = some ⟨[(.array .char)], none⟩ := by decide +kernel
set_option maxRecDepth 65536 in
set_option maxHeartbeats 40000000 in
theorem c_s4 {l : Launch} {Z : State} {a0 : Array Value} {z0 : Int32} {fm : Value} (G : Env1 Z a0 z0 fm) (x0 b0 : Addr) {kb0 : ClassId} {vs0 : List Value} {d0 : Value} (h : Heap) (hx0 : Z.heap.size ≤ x0) (E : Exa Z h x0 "java/lang/String") {v0 c0 : Value} (V : Fld Z h x0 "java/lang/String" "value" "[B" v0) (C : Fld Z h x0 "java/lang/String" "coder" "B" c0) (A0 : Arv Z h b0 kb0 .char 0 vs0 d0) : Ctr Z consts_1 false l [] (⟨"java/lang/String", "<init>", "([CIILjava/lang/Void;)V"⟩ : MethodName) jdk_42_method_149_code 6 none ({ frames := 1, cells := 4, slots := 8, locals := 12 } : Room) #[(.ref x0), (.ref b0), (.int (0 : Int32)), (.int (0 : Int32)), .null] h [x0] (fun v h' => v = none ∧ Str Z h' x0 [] ∧ Keep h h' [x0]) := by
  obtain ⟨hw, hEL, O2, P5, O4⟩ := id G
  refine Ctr.of_run (a0 := a0) (L0 := #[.val (.ref x0), .val (.ref b0), .val (.int (0 : Int32)), .val (.int (0 : Int32)), .val .null, .unset]) (plainFor_of_name pn_str) hEL (by first | rfl | (simp [argsToLocals, Value.category, maxLocals]; done)) (fun K hK => ?_)
  have wS := g_wS hw
  refine Run.pure hK (seg := [(0, .aload_n 0, 1)]) (by decide +kernel) (pc' := 1) (L' := #[.val (.ref x0), .val (.ref b0), .val (.int (0 : Int32)), .val (.int (0 : Int32)), .val .null, .unset]) (S' := [(.ref x0)]) rfl ?_
  refine Run.initobj hK (index := 1) (hw _ (List.mem_of_getElem? (i := 16) rfl)) (hw _ (List.mem_of_getElem? (i := 17) rfl)) (hw _ (List.mem_of_getElem? (i := 18) rfl)) rfl (by decide +kernel) (by decide) (Wt := 0) (Nat.le_of_ble_eq_true rfl) (by decide) ?_
  refine Run.pure hK (seg := [(4, .iload_n 3, 1)]) (by decide +kernel) (pc' := 5) (L' := #[.val (.ref x0), .val (.ref b0), .val (.int (0 : Int32)), .val (.int (0 : Int32)), .val .null, .unset]) (S' := [(.int (0 : Int32))]) rfl ?_
  refine Run.ifz hK (cd := .ne) (o := 22) (by decide +kernel) (by decide) (pc' := 27) rfl (fun q => by replace q := (h_ne _ _).1 q; exact absurd rfl q) (fun _ => ?_)
  refine Run.pure hK (seg := [(8, .aload_n 0, 1)]) (by decide +kernel) (pc' := 9) (L' := #[.val (.ref x0), .val (.ref b0), .val (.int (0 : Int32)), .val (.int (0 : Int32)), .val .null, .unset]) (S' := [(.ref x0)]) rfl ?_
  refine Run.ldcs hK (index := 7) rfl (text := "") (hw _ (List.mem_of_getElem? (i := 56) rfl)) wS (by decide) (vs := []) (z := (0 : Int32)) (by decide +kernel) (by decide) (by decide +kernel) (by decide +kernel) (n := 0) (by decide) (by decide) (by decide) (by decide) (fun h1 x1 b1 k1 E1 X1 C1 V1 A1 => ?_)
  refine Run.getf hK (index := 9) (host := "") (Or.inl (hw _ (List.mem_of_getElem? (i := 33) rfl))) Via.refl V1 (by decide +kernel) ?_
  refine Run.putf hK (index := 9) (host := "") (Or.inl (hw _ (List.mem_of_getElem? (i := 33) rfl))) Via.refl (V.ext E1) (E.ext E1) (Or.inr ⟨(hw _ (List.mem_of_getElem? (i := 34) rfl)), rfl, rfl⟩) (hw _ (List.mem_of_getElem? (i := 7) rfl)) (ty := (.array .byte)) (by decide) rfl rfl hx0 (sfW (List.mem_singleton.mpr rfl)) (by decide +kernel) (fun h2 W2 => ?_)
  have hsl : Jvm.RoadKit.slotOf Z "java/lang/String" "coder" "B" ≠ Jvm.RoadKit.slotOf Z "java/lang/String" "value" "[B" := slot_ne (Or.inr (hw _ (List.mem_of_getElem? (i := 32) rfl))) (Or.inr (hw _ (List.mem_of_getElem? (i := 34) rfl))) (by decide) (by decide : parseFieldDescriptor "B" = some .byte) (by decide : parseFieldDescriptor "[B" = some (.array .byte))
  have nb1 : x0 ≠ b1 := (E.ext E1).neArv A1 (hw _ (List.mem_of_getElem? (i := 7) rfl))
  have V2 := (V.ext E1).same W2
  have C2 := (C.ext E1).other W2 (Or.inr hsl)
  have X2 := (E.ext E1).wr W2
  have A2 := A1.other W2 nb1.symm
  refine Run.pure hK (seg := [(17, .aload_n 0, 1)]) (by decide +kernel) (pc' := 18) (L' := #[.val (.ref x0), .val (.ref b0), .val (.int (0 : Int32)), .val (.int (0 : Int32)), .val .null, .unset]) (S' := [(.ref x0)]) rfl ?_
  refine Run.ldcs hK (index := 7) rfl (text := "") (hw _ (List.mem_of_getElem? (i := 56) rfl)) wS (by decide) (vs := []) (z := (0 : Int32)) (by decide +kernel) (by decide) (by decide +kernel) (by decide +kernel) (n := 0) (by decide) (by decide) (by decide) (by decide) (fun h3 x3 b3 k3 E3 X3 C3 V3 A3 => ?_)
  refine Run.getf hK (index := 15) (host := "") (Or.inl (hw _ (List.mem_of_getElem? (i := 31) rfl))) Via.refl C3 (by decide +kernel) ?_
  refine Run.putf hK (index := 15) (host := "") (Or.inl (hw _ (List.mem_of_getElem? (i := 31) rfl))) Via.refl (C2.ext E3) (X2.ext E3) (Or.inr ⟨(hw _ (List.mem_of_getElem? (i := 32) rfl)), rfl, rfl⟩) (hw _ (List.mem_of_getElem? (i := 7) rfl)) (ty := .byte) (by decide) rfl rfl hx0 (sfW (List.mem_singleton.mpr rfl)) (by decide +kernel) (fun h4 W4 => ?_)
  have V4 := (V2.ext E3).other W4 (Or.inr hsl.symm)
  have C4 := (C2.ext E3).same W4
  have X4 := (X2.ext E3).wr W4
  have A4 := (A2.ext E3).other W4 nb1.symm
  have K4 : Keep h h4 [x0] := ((((Keep.refl h [x0]).ext E1).wr W2 (Or.inl (List.mem_singleton.mpr rfl))).ext E3).wr W4 (Or.inl (List.mem_singleton.mpr rfl))
  exact Run.retv hK (by decide +kernel) (by decide) (by decide) ⟨rfl, ⟨X4, C4, ⟨b1, k1, V4, A4⟩, (fun _ q => nomatch q), Nat.zero_le _⟩, K4⟩
set_option maxRecDepth 65536 in
set_option maxHeartbeats 40000000 in
theorem c_s1 {l : Launch} {Z : State} {a0 : Array Value} {z0 : Int32} {fm : Value} (G : Env1 Z a0 z0 fm) (x0 b0 : Addr) {kb0 : ClassId} {vs0 : List Value} {d0 : Value} (h : Heap) (hx0 : Z.heap.size ≤ x0) (E : Exa Z h x0 "java/lang/String") {v0 c0 : Value} (V : Fld Z h x0 "java/lang/String" "value" "[B" v0) (C : Fld Z h x0 "java/lang/String" "coder" "B" c0) (A0 : Arv Z h b0 kb0 .char 0 vs0 d0) : Ctr Z consts_1 false l [] (⟨"java/lang/String", "<init>", "([C)V"⟩ : MethodName) jdk_42_method_3_code 2 none ({ frames := 2, cells := 4, slots := 8, locals := 40 } : Room) #[(.ref x0), (.ref b0)] h [x0] (fun v h' => v = none ∧ Str Z h' x0 [] ∧ Keep h h' [x0]) := by
  obtain ⟨hw, hEL, O2, P5, O4⟩ := id G
  refine Ctr.of_run (a0 := a0) (L0 := #[.val (.ref x0), .val (.ref b0)]) (plainFor_of_name pn_str) hEL (by first | rfl | (simp [argsToLocals, Value.category, maxLocals]; done)) (fun K hK => ?_)
  have wS := g_wS hw
  refine Run.pure hK (seg := [(0, .aload_n 0, 1), (1, .aload_n 1, 1), (2, .iconst 0, 1), (3, .aload_n 1, 1)]) (by decide +kernel) (pc' := 4) (L' := #[.val (.ref x0), .val (.ref b0)]) (S' := [(.ref b0), (.int (0 : Int32)), (.ref b0), (.ref x0)]) rfl ?_
  refine Run.alen hK A0 (by decide +kernel) ?_
  refine Run.pure hK (seg := [(5, .aconst_null, 1)]) (by decide +kernel) (pc' := 6) (L' := #[.val (.ref x0), .val (.ref b0)]) (S' := [.null, (.int (0 : Int32)), (.int (0 : Int32)), (.ref b0), (.ref x0)]) rfl ?_
  refine Run.special hK (index := 27) (y := (⟨"java/lang/String", "<init>", "([CIILjava/lang/Void;)V"⟩ : MethodName)) (Wt := 0) (kc := 4) (ks := 8) rfl (hw _ (List.mem_of_getElem? (i := 12) rfl)) (hw _ (List.mem_of_getElem? (i := 13) rfl)) (hw _ (List.mem_of_getElem? (i := 15) rfl)) (by decide) (a := x0) (fun _ q => q) (Ctr.cal (c_s4 G x0 b0 h hx0 E V C A0) (hw _ (List.mem_of_getElem? (i := 15) rfl)) (hw _ (List.mem_of_getElem? (i := 8) rfl)) (by decide) (by decide)) rfl (argsL := [(.ref b0), (.int (0 : Int32)), (.int (0 : Int32)), .null]) (rest := []) (lenOf pd_s4 rfl) rfl (Nat.le_of_ble_eq_true rfl) (by decide +kernel) (by decide) (by decide) (fun v1 h1 q1 n1 => ?_)
  obtain ⟨rfl, q1a, q1b⟩ := q1
  exact Run.retv hK (by decide +kernel) (by decide) (by decide) ⟨rfl, q1a, q1b⟩
theorem cal_newS {l : Launch} {Z : State} {a0 : Array Value} {z0 : Int32} {fm : Value} (G : Env1 Z a0 z0 fm) {R : Room} {W : List Addr} {h : Heap} {Wt : Nat} {x0 b0 : Addr} {cs : List Int32} {v0 c0 d0 : Value} {kC : ClassId} {N : Int32} (hx0 : Z.heap.size ≤ x0) (hm : x0 ∈ W) (E : Exa Z h x0 "java/lang/String") (V : Fld Z h x0 "java/lang/String" "value" "[B" v0) (C : Fld Z h x0 "java/lang/String" "coder" "B" c0)
    (A : Arv Z h b0 kC .char N (cs.map Value.int) d0) (hN : N = Int32.ofNat cs.length) (l2 : cs.length ≤ 4000) (hp : ∀ c ∈ cs, ¬ c < 0 ∧ ¬ (255 : Int32) < c) (hfr : 4 ≤ R.frames) (hlo : Wt + 65 ≤ R.locals) {kc ks : Nat} (h1 : 4 ≤ kc) (h2 : 8 ≤ ks) (h3 : cs.length ≤ ks) :
    Cal Z consts_1 false a0 l R ⟨"java/lang/String", "<init>", "([C)V"⟩ 3 Wt #[.ref x0, .ref b0] h W kc ks (fun v h' => v = none ∧ Str Z h' x0 cs ∧ Keep h h' [x0]) := by
  obtain ⟨hw, hEL, O2, P5, O4⟩ := id G
  cases cs with
  | nil =>
    subst hN
    exact Cal.conseq (Cal.more (Ctr.cal (c_s1 G x0 b0 h hx0 E V C A) (hw _ (List.mem_of_getElem? (i := 11) rfl)) (hw _ (List.mem_of_getElem? (i := 8) rfl)) (by show 3 ≤ _; omega) (by show Wt + (2 + 11) + 40 ≤ _; omega)) h1 h2) (fun x hx => by cases List.mem_singleton.mp hx; exact hm) (fun _ _ q => q)
  | cons c1 cs =>
    exact Cal.more (cal_new1 (g_backV hw) (hw _ (List.mem_of_getElem? (i := 7) rfl)) hx0 hm E V C A O2 P5 hN (Nat.succ_pos _) l2 hp hfr hlo) (by omega) h3
def ALI : List Int32 := [115, 121, 115, 116, 101, 109, 46, 98, 117, 110, 100, 108, 101]
def OWN : List Int32 := [99, 111, 109, 46, 101, 120, 97, 109, 112, 108, 101, 46, 107, 101, 101, 108, 115, 111, 110]
theorem ne_len {cs : List Int32} (h1 : cs.length ≠ 13) (h2 : cs.length ≠ 19) : ¬ (cs = ALI ∨ cs = OWN) := fun z => by
  rcases z with z | z
  · exact h1 (by rw [z]; rfl)
  · exact h2 (by rw [z]; rfl)
set_option maxRecDepth 65536 in
set_option maxHeartbeats 40000000 in
theorem c_named {l : Launch} {Z : State} {a0 : Array Value} {z0 : Int32} {fm : Value} (G : Env1 Z a0 z0 fm) (x0 : Addr) {cs : List Int32} (h : Heap) (F : Str Z h x0 cs) : Ctr Z consts_1 false l [] (⟨"com/example/keelson/keelson/module/SystemBundle", "named", "(Ljava/lang/String;)Z"⟩ : MethodName) prog_101_method_2_code 1 (some .boolean) ({ frames := 2, cells := 4, slots := 136, locals := 40 } : Room) #[(.ref x0)] h [] (fun v h' => v = some (.int (if cs = ALI ∨ cs = OWN then 1 else 0))) := by
  obtain ⟨hw, hEL, O2, P5, O4⟩ := id G
  refine Ctr.of_run (a0 := a0) (L0 := #[.val (.ref x0)]) (plainFor_of_name pn_sb) hEL (by first | rfl | (simp [argsToLocals, Value.category, maxLocals]; done)) (fun K hK => ?_)
  have wS := g_wS hw
  refine Run.ldcs hK (index := 9) rfl (text := "system.bundle") (hw _ (List.mem_of_getElem? (i := 39) rfl)) wS (by decide) (vs := ((([115, 121, 115, 116, 101, 109, 46, 98, 117, 110, 100, 108, 101] : List Int32).map StrChars.lo8).map Value.int)) (z := (13 : Int32)) (by decide +kernel) (by decide) (by decide +kernel) (by decide +kernel) (n := 52) (by decide) (by decide) (by decide) (by decide) (fun h1 x1 b1 k1 E1 X1 C1 V1 A1 => ?_)
  have F1 : Str Z h1 x1 ALI := ⟨X1, C1, ⟨b1, k1, V1, A1⟩, (by decide), (by decide)⟩
  replace F := F.ext E1
  refine Run.pure hK (seg := [(2, .aload_n 0, 1)]) (by decide +kernel) (pc' := 3) (L' := #[.val (.ref x0)]) (S' := [(.ref x0), (.ref x1)]) rfl ?_
  refine Run.virtual hK (index := 11) (y := (⟨"java/lang/String", "equals", "(Ljava/lang/Object;)Z"⟩ : MethodName)) (z := (⟨"java/lang/String", "equals", "(Ljava/lang/Object;)Z"⟩ : MethodName)) (C := "java/lang/String") (Wt := 0) (kc := 0) (ks := 0) (hw _ (List.mem_of_getElem? (i := 42) rfl)) (hw _ (List.mem_of_getElem? (i := 43) rfl)) (nfS (hw _ (List.mem_of_getElem? (i := 45) rfl))) (hw _ (List.mem_of_getElem? (i := 45) rfl)) (hw _ (List.mem_of_getElem? (i := 44) rfl)) (by decide) (a := x1) F1.1 (fun _ q => q) (cal_eq (g_eqW hw) (hw _ (List.mem_of_getElem? (i := 7) rfl)) F1 F O2 P5 (by decide) (by decide)) rfl (argsL := [(.ref x0)]) (rest := []) (lenOf pd_eq rfl) rfl (Nat.le_of_ble_eq_true rfl) (by decide +kernel) (by decide) (by decide) (fun v2 h2 q2 n2 => ?_)
  obtain ⟨rfl, rfl⟩ := q2
  by_cases qa : ALI = cs
  · rw [if_pos qa]
    refine Run.ifz hK (cd := .ne) (o := 12) (by decide +kernel) (by decide) (pc' := 18) rfl (fun _ => ?_) (fun q => by replace q := (h_ne _ _).2 q; exact absurd q (by decide))
    refine Run.pure hK (seg := [(18, .iconst 1, 1), (19, .goto 4, 3)]) (by decide +kernel) (pc' := 23) (L' := #[.val (.ref x0)]) (S' := [(.int (1 : Int32))]) rfl ?_
    exact Run.retw hK (i := .ireturn) rfl (Or.inl ⟨rfl, Or.inr (Or.inl rfl), _, rfl⟩) (by decide +kernel) (by decide) (by decide) (by rw [if_pos (Or.inl qa.symm)])
  · rw [if_neg qa]
    refine Run.ifz hK (cd := .ne) (o := 12) (by decide +kernel) (by decide) (pc' := 18) rfl (fun q => by replace q := (h_ne _ _).1 q; exact absurd rfl q) (fun _ => ?_)
    refine Run.ldcs hK (index := 19) rfl (text := "com.example.keelson") (hw _ (List.mem_of_getElem? (i := 52) rfl)) wS (by decide) (vs := ((([99, 111, 109, 46, 101, 120, 97, 109, 112, 108, 101, 46, 107, 101, 101, 108, 115, 111, 110] : List Int32).map StrChars.lo8).map Value.int)) (z := (19 : Int32)) (by decide +kernel) (by decide) (by decide +kernel) (by decide +kernel) (n := 76) (by decide) (by decide) (by decide) (by decide) (fun h3 x3 b3 k3 E3 X3 C3 V3 A3 => ?_)
    have F3 : Str Z h3 x3 OWN := ⟨X3, C3, ⟨b3, k3, V3, A3⟩, (by decide), (by decide)⟩
    replace F := F.ext E3
    refine Run.pure hK (seg := [(11, .aload_n 0, 1)]) (by decide +kernel) (pc' := 12) (L' := #[.val (.ref x0)]) (S' := [(.ref x0), (.ref x3)]) rfl ?_
    refine Run.virtual hK (index := 11) (y := (⟨"java/lang/String", "equals", "(Ljava/lang/Object;)Z"⟩ : MethodName)) (z := (⟨"java/lang/String", "equals", "(Ljava/lang/Object;)Z"⟩ : MethodName)) (C := "java/lang/String") (Wt := 0) (kc := 0) (ks := 0) (hw _ (List.mem_of_getElem? (i := 42) rfl)) (hw _ (List.mem_of_getElem? (i := 43) rfl)) (nfS (hw _ (List.mem_of_getElem? (i := 45) rfl))) (hw _ (List.mem_of_getElem? (i := 45) rfl)) (hw _ (List.mem_of_getElem? (i := 44) rfl)) (by decide) (a := x3) F3.1 (fun _ q => q) (cal_eq (g_eqW hw) (hw _ (List.mem_of_getElem? (i := 7) rfl)) F3 F O2 P5 (by decide) (by decide)) rfl (argsL := [(.ref x0)]) (rest := []) (lenOf pd_eq rfl) rfl (Nat.le_of_ble_eq_true rfl) (by decide +kernel) (by decide) (by decide) (fun v4 h4 q4 n4 => ?_)
    obtain ⟨rfl, rfl⟩ := q4
    by_cases qo : OWN = cs
    · rw [if_pos qo]
      refine Run.ifz hK (cd := .eq) (o := 7) (by decide +kernel) (by decide) (pc' := 22) rfl (fun q => by replace q := (h_eq _ _).1 q; exact absurd q (by decide)) (fun _ => ?_)
      refine Run.pure hK (seg := [(18, .iconst 1, 1), (19, .goto 4, 3)]) (by decide +kernel) (pc' := 23) (L' := #[.val (.ref x0)]) (S' := [(.int (1 : Int32))]) rfl ?_
      exact Run.retw hK (i := .ireturn) rfl (Or.inl ⟨rfl, Or.inr (Or.inl rfl), _, rfl⟩) (by decide +kernel) (by decide) (by decide) (by rw [if_pos (Or.inr qo.symm)])
    · rw [if_neg qo]
      refine Run.ifz hK (cd := .eq) (o := 7) (by decide +kernel) (by decide) (pc' := 22) rfl (fun _ => ?_) (fun q => by replace q := (h_eq _ _).2 q; exact absurd q (by decide))
      refine Run.pure hK (seg := [(22, .iconst 0, 1)]) (by decide +kernel) (pc' := 23) (L' := #[.val (.ref x0)]) (S' := [(.int (0 : Int32))]) rfl ?_
      exact Run.retw hK (i := .ireturn) rfl (Or.inl ⟨rfl, Or.inr (Or.inl rfl), _, rfl⟩) (by decide +kernel) (by decide) (by decide) (by rw [if_neg (fun z => z.elim (fun e => qa e.symm) (fun e => qo e.symm))])
set_option maxRecDepth 65536 in
set_option maxHeartbeats 40000000 in
theorem c_ali {l : Launch} {Z : State} {a0 : Array Value} {z0 : Int32} {fm : Value} (G : Env1 Z a0 z0 fm)  (h : Heap) : Ctr Z consts_1 false l [] (⟨"com/example/keelson/keelson/module/SystemBundleNamedPinLaw", "alias", "()[C"⟩ : MethodName) method_2_code 0 (some (.array .char)) ({ frames := 0, cells := 1, slots := 13, locals := 0 } : Room) #[] h [] (fun v h' => ∃ a k, v = some (.ref a) ∧ Arv Z h' a k .char (13 : Int32) (ALI.map Value.int) (.int 0) ∧ Z.heap.size ≤ a) := by
  obtain ⟨hw, hEL, O2, P5, O4⟩ := id G
  refine Ctr.of_run (a0 := a0) (L0 := #[]) (plainFor_of_name pn_law) hEL (by first | rfl | (simp [argsToLocals, Value.category, maxLocals]; done)) (fun K hK => ?_)
  refine Run.old (fun hO => ?_)
  refine Run.pure hK (seg := [(0, .bipush 13, 2)]) (by decide +kernel) (pc' := 2) (L' := #[]) (S' := [(.int (13 : Int32))]) rfl ?_
  refine Run.newarr hK (aty := .char) (hw _ (List.mem_of_getElem? (i := 5) rfl)) (by decide +kernel) (by decide) (cap := 13) (by decide) (by decide) (by decide) (by decide) (fun hr kr Er Ar => ?_)
  obtain ⟨ar, zr⟩ : ∃ z, z = h.size := ⟨_, rfl⟩
  rw [← zr]
  rw [← zr] at Ar
  have gr : Z.heap.size ≤ ar := by rw [zr]; exact hO.1
  refine Run.pure hK (seg := [(4, .dup, 1), (5, .iconst 0, 1), (6, .bipush 115, 2)]) (by decide +kernel) (pc' := 8) (L' := #[]) (S' := [(.int (115 : Int32)), (.int (0 : Int32)), (.ref ar), (.ref ar)]) rfl ?_
  refine Run.cst hK Ar ⟨by decide, by decide⟩ gr (by decide +kernel) (fun hr0 Wr0 Br0 => ?_)
  have Ar0 : Arv Z hr0 ar kr .char (13 : Int32) [(.int 115), (.int (0 : Int32)), (.int (0 : Int32)), (.int (0 : Int32)), (.int (0 : Int32)), (.int (0 : Int32)), (.int (0 : Int32)), (.int (0 : Int32)), (.int (0 : Int32)), (.int (0 : Int32)), (.int (0 : Int32)), (.int (0 : Int32)), (.int (0 : Int32))] (.int 0) := by have q := Br0; exact q
  refine Run.pure hK (seg := [(9, .dup, 1), (10, .iconst 1, 1), (11, .bipush 121, 2)]) (by decide +kernel) (pc' := 13) (L' := #[]) (S' := [(.int (121 : Int32)), (.int (1 : Int32)), (.ref ar), (.ref ar)]) rfl ?_
  refine Run.cst hK Ar0 ⟨by decide, by decide⟩ gr (by decide +kernel) (fun hr1 Wr1 Br1 => ?_)
  have Ar1 : Arv Z hr1 ar kr .char (13 : Int32) [(.int 115), (.int 121), (.int (0 : Int32)), (.int (0 : Int32)), (.int (0 : Int32)), (.int (0 : Int32)), (.int (0 : Int32)), (.int (0 : Int32)), (.int (0 : Int32)), (.int (0 : Int32)), (.int (0 : Int32)), (.int (0 : Int32)), (.int (0 : Int32))] (.int 0) := by have q := Br1; exact q
  refine Run.pure hK (seg := [(14, .dup, 1), (15, .iconst 2, 1), (16, .bipush 115, 2)]) (by decide +kernel) (pc' := 18) (L' := #[]) (S' := [(.int (115 : Int32)), (.int (2 : Int32)), (.ref ar), (.ref ar)]) rfl ?_
  refine Run.cst hK Ar1 ⟨by decide, by decide⟩ gr (by decide +kernel) (fun hr2 Wr2 Br2 => ?_)
  have Ar2 : Arv Z hr2 ar kr .char (13 : Int32) [(.int 115), (.int 121), (.int 115), (.int (0 : Int32)), (.int (0 : Int32)), (.int (0 : Int32)), (.int (0 : Int32)), (.int (0 : Int32)), (.int (0 : Int32)), (.int (0 : Int32)), (.int (0 : Int32)), (.int (0 : Int32)), (.int (0 : Int32))] (.int 0) := by have q := Br2; exact q
  refine Run.pure hK (seg := [(19, .dup, 1), (20, .iconst 3, 1), (21, .bipush 116, 2)]) (by decide +kernel) (pc' := 23) (L' := #[]) (S' := [(.int (116 : Int32)), (.int (3 : Int32)), (.ref ar), (.ref ar)]) rfl ?_
  refine Run.cst hK Ar2 ⟨by decide, by decide⟩ gr (by decide +kernel) (fun hr3 Wr3 Br3 => ?_)
  have Ar3 : Arv Z hr3 ar kr .char (13 : Int32) [(.int 115), (.int 121), (.int 115), (.int 116), (.int (0 : Int32)), (.int (0 : Int32)), (.int (0 : Int32)), (.int (0 : Int32)), (.int (0 : Int32)), (.int (0 : Int32)), (.int (0 : Int32)), (.int (0 : Int32)), (.int (0 : Int32))] (.int 0) := by have q := Br3; exact q
  refine Run.pure hK (seg := [(24, .dup, 1), (25, .iconst 4, 1), (26, .bipush 101, 2)]) (by decide +kernel) (pc' := 28) (L' := #[]) (S' := [(.int (101 : Int32)), (.int (4 : Int32)), (.ref ar), (.ref ar)]) rfl ?_
  refine Run.cst hK Ar3 ⟨by decide, by decide⟩ gr (by decide +kernel) (fun hr4 Wr4 Br4 => ?_)
  have Ar4 : Arv Z hr4 ar kr .char (13 : Int32) [(.int 115), (.int 121), (.int 115), (.int 116), (.int 101), (.int (0 : Int32)), (.int (0 : Int32)), (.int (0 : Int32)), (.int (0 : Int32)), (.int (0 : Int32)), (.int (0 : Int32)), (.int (0 : Int32)), (.int (0 : Int32))] (.int 0) := by have q := Br4; exact q
  refine Run.pure hK (seg := [(29, .dup, 1), (30, .iconst 5, 1), (31, .bipush 109, 2)]) (by decide +kernel) (pc' := 33) (L' := #[]) (S' := [(.int (109 : Int32)), (.int (5 : Int32)), (.ref ar), (.ref ar)]) rfl ?_
  refine Run.cst hK Ar4 ⟨by decide, by decide⟩ gr (by decide +kernel) (fun hr5 Wr5 Br5 => ?_)
  have Ar5 : Arv Z hr5 ar kr .char (13 : Int32) [(.int 115), (.int 121), (.int 115), (.int 116), (.int 101), (.int 109), (.int (0 : Int32)), (.int (0 : Int32)), (.int (0 : Int32)), (.int (0 : Int32)), (.int (0 : Int32)), (.int (0 : Int32)), (.int (0 : Int32))] (.int 0) := by have q := Br5; exact q
  refine Run.pure hK (seg := [(34, .dup, 1), (35, .bipush 6, 2), (37, .bipush 46, 2)]) (by decide +kernel) (pc' := 39) (L' := #[]) (S' := [(.int (46 : Int32)), (.int (6 : Int32)), (.ref ar), (.ref ar)]) rfl ?_
  refine Run.cst hK Ar5 ⟨by decide, by decide⟩ gr (by decide +kernel) (fun hr6 Wr6 Br6 => ?_)
  have Ar6 : Arv Z hr6 ar kr .char (13 : Int32) [(.int 115), (.int 121), (.int 115), (.int 116), (.int 101), (.int 109), (.int 46), (.int (0 : Int32)), (.int (0 : Int32)), (.int (0 : Int32)), (.int (0 : Int32)), (.int (0 : Int32)), (.int (0 : Int32))] (.int 0) := by have q := Br6; exact q
  refine Run.pure hK (seg := [(40, .dup, 1), (41, .bipush 7, 2), (43, .bipush 98, 2)]) (by decide +kernel) (pc' := 45) (L' := #[]) (S' := [(.int (98 : Int32)), (.int (7 : Int32)), (.ref ar), (.ref ar)]) rfl ?_
  refine Run.cst hK Ar6 ⟨by decide, by decide⟩ gr (by decide +kernel) (fun hr7 Wr7 Br7 => ?_)
  have Ar7 : Arv Z hr7 ar kr .char (13 : Int32) [(.int 115), (.int 121), (.int 115), (.int 116), (.int 101), (.int 109), (.int 46), (.int 98), (.int (0 : Int32)), (.int (0 : Int32)), (.int (0 : Int32)), (.int (0 : Int32)), (.int (0 : Int32))] (.int 0) := by have q := Br7; exact q
  refine Run.pure hK (seg := [(46, .dup, 1), (47, .bipush 8, 2), (49, .bipush 117, 2)]) (by decide +kernel) (pc' := 51) (L' := #[]) (S' := [(.int (117 : Int32)), (.int (8 : Int32)), (.ref ar), (.ref ar)]) rfl ?_
  refine Run.cst hK Ar7 ⟨by decide, by decide⟩ gr (by decide +kernel) (fun hr8 Wr8 Br8 => ?_)
  have Ar8 : Arv Z hr8 ar kr .char (13 : Int32) [(.int 115), (.int 121), (.int 115), (.int 116), (.int 101), (.int 109), (.int 46), (.int 98), (.int 117), (.int (0 : Int32)), (.int (0 : Int32)), (.int (0 : Int32)), (.int (0 : Int32))] (.int 0) := by have q := Br8; exact q
  refine Run.pure hK (seg := [(52, .dup, 1), (53, .bipush 9, 2), (55, .bipush 110, 2)]) (by decide +kernel) (pc' := 57) (L' := #[]) (S' := [(.int (110 : Int32)), (.int (9 : Int32)), (.ref ar), (.ref ar)]) rfl ?_
  refine Run.cst hK Ar8 ⟨by decide, by decide⟩ gr (by decide +kernel) (fun hr9 Wr9 Br9 => ?_)
  have Ar9 : Arv Z hr9 ar kr .char (13 : Int32) [(.int 115), (.int 121), (.int 115), (.int 116), (.int 101), (.int 109), (.int 46), (.int 98), (.int 117), (.int 110), (.int (0 : Int32)), (.int (0 : Int32)), (.int (0 : Int32))] (.int 0) := by have q := Br9; exact q
  refine Run.pure hK (seg := [(58, .dup, 1), (59, .bipush 10, 2), (61, .bipush 100, 2)]) (by decide +kernel) (pc' := 63) (L' := #[]) (S' := [(.int (100 : Int32)), (.int (10 : Int32)), (.ref ar), (.ref ar)]) rfl ?_
  refine Run.cst hK Ar9 ⟨by decide, by decide⟩ gr (by decide +kernel) (fun hr10 Wr10 Br10 => ?_)
  have Ar10 : Arv Z hr10 ar kr .char (13 : Int32) [(.int 115), (.int 121), (.int 115), (.int 116), (.int 101), (.int 109), (.int 46), (.int 98), (.int 117), (.int 110), (.int 100), (.int (0 : Int32)), (.int (0 : Int32))] (.int 0) := by have q := Br10; exact q
  refine Run.pure hK (seg := [(64, .dup, 1), (65, .bipush 11, 2), (67, .bipush 108, 2)]) (by decide +kernel) (pc' := 69) (L' := #[]) (S' := [(.int (108 : Int32)), (.int (11 : Int32)), (.ref ar), (.ref ar)]) rfl ?_
  refine Run.cst hK Ar10 ⟨by decide, by decide⟩ gr (by decide +kernel) (fun hr11 Wr11 Br11 => ?_)
  have Ar11 : Arv Z hr11 ar kr .char (13 : Int32) [(.int 115), (.int 121), (.int 115), (.int 116), (.int 101), (.int 109), (.int 46), (.int 98), (.int 117), (.int 110), (.int 100), (.int 108), (.int (0 : Int32))] (.int 0) := by have q := Br11; exact q
  refine Run.pure hK (seg := [(70, .dup, 1), (71, .bipush 12, 2), (73, .bipush 101, 2)]) (by decide +kernel) (pc' := 75) (L' := #[]) (S' := [(.int (101 : Int32)), (.int (12 : Int32)), (.ref ar), (.ref ar)]) rfl ?_
  refine Run.cst hK Ar11 ⟨by decide, by decide⟩ gr (by decide +kernel) (fun hr12 Wr12 Br12 => ?_)
  have Ar12 : Arv Z hr12 ar kr .char (13 : Int32) [(.int 115), (.int 121), (.int 115), (.int 116), (.int 101), (.int 109), (.int 46), (.int 98), (.int 117), (.int 110), (.int 100), (.int 108), (.int 101)] (.int 0) := by have q := Br12; exact q
  exact Run.retw hK (i := .areturn) rfl (Or.inr (Or.inr (Or.inr (Or.inr ⟨rfl, rfl, rfl⟩)))) (by decide +kernel) (by decide) (by decide) ⟨ar, kr, rfl, Ar12, gr⟩
set_option maxRecDepth 65536 in
set_option maxHeartbeats 40000000 in
theorem c_own {l : Launch} {Z : State} {a0 : Array Value} {z0 : Int32} {fm : Value} (G : Env1 Z a0 z0 fm)  (h : Heap) : Ctr Z consts_1 false l [] (⟨"com/example/keelson/keelson/module/SystemBundleNamedPinLaw", "own", "()[C"⟩ : MethodName) method_3_code 0 (some (.array .char)) ({ frames := 0, cells := 1, slots := 19, locals := 0 } : Room) #[] h [] (fun v h' => ∃ a k, v = some (.ref a) ∧ Arv Z h' a k .char (19 : Int32) (OWN.map Value.int) (.int 0) ∧ Z.heap.size ≤ a) := by
  obtain ⟨hw, hEL, O2, P5, O4⟩ := id G
  refine Ctr.of_run (a0 := a0) (L0 := #[]) (plainFor_of_name pn_law) hEL (by first | rfl | (simp [argsToLocals, Value.category, maxLocals]; done)) (fun K hK => ?_)
  refine Run.old (fun hO => ?_)
  refine Run.pure hK (seg := [(0, .bipush 19, 2)]) (by decide +kernel) (pc' := 2) (L' := #[]) (S' := [(.int (19 : Int32))]) rfl ?_
  refine Run.newarr hK (aty := .char) (hw _ (List.mem_of_getElem? (i := 5) rfl)) (by decide +kernel) (by decide) (cap := 19) (by decide) (by decide) (by decide) (by decide) (fun hr kr Er Ar => ?_)
  obtain ⟨ar, zr⟩ : ∃ z, z = h.size := ⟨_, rfl⟩
  rw [← zr]
  rw [← zr] at Ar
  have gr : Z.heap.size ≤ ar := by rw [zr]; exact hO.1
  refine Run.pure hK (seg := [(4, .dup, 1), (5, .iconst 0, 1), (6, .bipush 99, 2)]) (by decide +kernel) (pc' := 8) (L' := #[]) (S' := [(.int (99 : Int32)), (.int (0 : Int32)), (.ref ar), (.ref ar)]) rfl ?_
  refine Run.cst hK Ar ⟨by decide, by decide⟩ gr (by decide +kernel) (fun hr0 Wr0 Br0 => ?_)
  have Ar0 : Arv Z hr0 ar kr .char (19 : Int32) [(.int 99), (.int (0 : Int32)), (.int (0 : Int32)), (.int (0 : Int32)), (.int (0 : Int32)), (.int (0 : Int32)), (.int (0 : Int32)), (.int (0 : Int32)), (.int (0 : Int32)), (.int (0 : Int32)), (.int (0 : Int32)), (.int (0 : Int32)), (.int (0 : Int32)), (.int (0 : Int32)), (.int (0 : Int32)), (.int (0 : Int32)), (.int (0 : Int32)), (.int (0 : Int32)), (.int (0 : Int32))] (.int 0) := by have q := Br0; exact q
  refine Run.pure hK (seg := [(9, .dup, 1), (10, .iconst 1, 1), (11, .bipush 111, 2)]) (by decide +kernel) (pc' := 13) (L' := #[]) (S' := [(.int (111 : Int32)), (.int (1 : Int32)), (.ref ar), (.ref ar)]) rfl ?_
  refine Run.cst hK Ar0 ⟨by decide, by decide⟩ gr (by decide +kernel) (fun hr1 Wr1 Br1 => ?_)
  have Ar1 : Arv Z hr1 ar kr .char (19 : Int32) [(.int 99), (.int 111), (.int (0 : Int32)), (.int (0 : Int32)), (.int (0 : Int32)), (.int (0 : Int32)), (.int (0 : Int32)), (.int (0 : Int32)), (.int (0 : Int32)), (.int (0 : Int32)), (.int (0 : Int32)), (.int (0 : Int32)), (.int (0 : Int32)), (.int (0 : Int32)), (.int (0 : Int32)), (.int (0 : Int32)), (.int (0 : Int32)), (.int (0 : Int32)), (.int (0 : Int32))] (.int 0) := by have q := Br1; exact q
  refine Run.pure hK (seg := [(14, .dup, 1), (15, .iconst 2, 1), (16, .bipush 109, 2)]) (by decide +kernel) (pc' := 18) (L' := #[]) (S' := [(.int (109 : Int32)), (.int (2 : Int32)), (.ref ar), (.ref ar)]) rfl ?_
  refine Run.cst hK Ar1 ⟨by decide, by decide⟩ gr (by decide +kernel) (fun hr2 Wr2 Br2 => ?_)
  have Ar2 : Arv Z hr2 ar kr .char (19 : Int32) [(.int 99), (.int 111), (.int 109), (.int (0 : Int32)), (.int (0 : Int32)), (.int (0 : Int32)), (.int (0 : Int32)), (.int (0 : Int32)), (.int (0 : Int32)), (.int (0 : Int32)), (.int (0 : Int32)), (.int (0 : Int32)), (.int (0 : Int32)), (.int (0 : Int32)), (.int (0 : Int32)), (.int (0 : Int32)), (.int (0 : Int32)), (.int (0 : Int32)), (.int (0 : Int32))] (.int 0) := by have q := Br2; exact q
  refine Run.pure hK (seg := [(19, .dup, 1), (20, .iconst 3, 1), (21, .bipush 46, 2)]) (by decide +kernel) (pc' := 23) (L' := #[]) (S' := [(.int (46 : Int32)), (.int (3 : Int32)), (.ref ar), (.ref ar)]) rfl ?_
  refine Run.cst hK Ar2 ⟨by decide, by decide⟩ gr (by decide +kernel) (fun hr3 Wr3 Br3 => ?_)
  have Ar3 : Arv Z hr3 ar kr .char (19 : Int32) [(.int 99), (.int 111), (.int 109), (.int 46), (.int (0 : Int32)), (.int (0 : Int32)), (.int (0 : Int32)), (.int (0 : Int32)), (.int (0 : Int32)), (.int (0 : Int32)), (.int (0 : Int32)), (.int (0 : Int32)), (.int (0 : Int32)), (.int (0 : Int32)), (.int (0 : Int32)), (.int (0 : Int32)), (.int (0 : Int32)), (.int (0 : Int32)), (.int (0 : Int32))] (.int 0) := by have q := Br3; exact q
  refine Run.pure hK (seg := [(24, .dup, 1), (25, .iconst 4, 1), (26, .bipush 101, 2)]) (by decide +kernel) (pc' := 28) (L' := #[]) (S' := [(.int (101 : Int32)), (.int (4 : Int32)), (.ref ar), (.ref ar)]) rfl ?_
  refine Run.cst hK Ar3 ⟨by decide, by decide⟩ gr (by decide +kernel) (fun hr4 Wr4 Br4 => ?_)
  have Ar4 : Arv Z hr4 ar kr .char (19 : Int32) [(.int 99), (.int 111), (.int 109), (.int 46), (.int 101), (.int (0 : Int32)), (.int (0 : Int32)), (.int (0 : Int32)), (.int (0 : Int32)), (.int (0 : Int32)), (.int (0 : Int32)), (.int (0 : Int32)), (.int (0 : Int32)), (.int (0 : Int32)), (.int (0 : Int32)), (.int (0 : Int32)), (.int (0 : Int32)), (.int (0 : Int32)), (.int (0 : Int32))] (.int 0) := by have q := Br4; exact q
  refine Run.pure hK (seg := [(29, .dup, 1), (30, .iconst 5, 1), (31, .bipush 120, 2)]) (by decide +kernel) (pc' := 33) (L' := #[]) (S' := [(.int (120 : Int32)), (.int (5 : Int32)), (.ref ar), (.ref ar)]) rfl ?_
  refine Run.cst hK Ar4 ⟨by decide, by decide⟩ gr (by decide +kernel) (fun hr5 Wr5 Br5 => ?_)
  have Ar5 : Arv Z hr5 ar kr .char (19 : Int32) [(.int 99), (.int 111), (.int 109), (.int 46), (.int 101), (.int 120), (.int (0 : Int32)), (.int (0 : Int32)), (.int (0 : Int32)), (.int (0 : Int32)), (.int (0 : Int32)), (.int (0 : Int32)), (.int (0 : Int32)), (.int (0 : Int32)), (.int (0 : Int32)), (.int (0 : Int32)), (.int (0 : Int32)), (.int (0 : Int32)), (.int (0 : Int32))] (.int 0) := by have q := Br5; exact q
  refine Run.pure hK (seg := [(34, .dup, 1), (35, .bipush 6, 2), (37, .bipush 97, 2)]) (by decide +kernel) (pc' := 39) (L' := #[]) (S' := [(.int (97 : Int32)), (.int (6 : Int32)), (.ref ar), (.ref ar)]) rfl ?_
  refine Run.cst hK Ar5 ⟨by decide, by decide⟩ gr (by decide +kernel) (fun hr6 Wr6 Br6 => ?_)
  have Ar6 : Arv Z hr6 ar kr .char (19 : Int32) [(.int 99), (.int 111), (.int 109), (.int 46), (.int 101), (.int 120), (.int 97), (.int (0 : Int32)), (.int (0 : Int32)), (.int (0 : Int32)), (.int (0 : Int32)), (.int (0 : Int32)), (.int (0 : Int32)), (.int (0 : Int32)), (.int (0 : Int32)), (.int (0 : Int32)), (.int (0 : Int32)), (.int (0 : Int32)), (.int (0 : Int32))] (.int 0) := by have q := Br6; exact q
  refine Run.pure hK (seg := [(40, .dup, 1), (41, .bipush 7, 2), (43, .bipush 109, 2)]) (by decide +kernel) (pc' := 45) (L' := #[]) (S' := [(.int (109 : Int32)), (.int (7 : Int32)), (.ref ar), (.ref ar)]) rfl ?_
  refine Run.cst hK Ar6 ⟨by decide, by decide⟩ gr (by decide +kernel) (fun hr7 Wr7 Br7 => ?_)
  have Ar7 : Arv Z hr7 ar kr .char (19 : Int32) [(.int 99), (.int 111), (.int 109), (.int 46), (.int 101), (.int 120), (.int 97), (.int 109), (.int (0 : Int32)), (.int (0 : Int32)), (.int (0 : Int32)), (.int (0 : Int32)), (.int (0 : Int32)), (.int (0 : Int32)), (.int (0 : Int32)), (.int (0 : Int32)), (.int (0 : Int32)), (.int (0 : Int32)), (.int (0 : Int32))] (.int 0) := by have q := Br7; exact q
  refine Run.pure hK (seg := [(46, .dup, 1), (47, .bipush 8, 2), (49, .bipush 112, 2)]) (by decide +kernel) (pc' := 51) (L' := #[]) (S' := [(.int (112 : Int32)), (.int (8 : Int32)), (.ref ar), (.ref ar)]) rfl ?_
  refine Run.cst hK Ar7 ⟨by decide, by decide⟩ gr (by decide +kernel) (fun hr8 Wr8 Br8 => ?_)
  have Ar8 : Arv Z hr8 ar kr .char (19 : Int32) [(.int 99), (.int 111), (.int 109), (.int 46), (.int 101), (.int 120), (.int 97), (.int 109), (.int 112), (.int (0 : Int32)), (.int (0 : Int32)), (.int (0 : Int32)), (.int (0 : Int32)), (.int (0 : Int32)), (.int (0 : Int32)), (.int (0 : Int32)), (.int (0 : Int32)), (.int (0 : Int32)), (.int (0 : Int32))] (.int 0) := by have q := Br8; exact q
  refine Run.pure hK (seg := [(52, .dup, 1), (53, .bipush 9, 2), (55, .bipush 108, 2)]) (by decide +kernel) (pc' := 57) (L' := #[]) (S' := [(.int (108 : Int32)), (.int (9 : Int32)), (.ref ar), (.ref ar)]) rfl ?_
  refine Run.cst hK Ar8 ⟨by decide, by decide⟩ gr (by decide +kernel) (fun hr9 Wr9 Br9 => ?_)
  have Ar9 : Arv Z hr9 ar kr .char (19 : Int32) [(.int 99), (.int 111), (.int 109), (.int 46), (.int 101), (.int 120), (.int 97), (.int 109), (.int 112), (.int 108), (.int (0 : Int32)), (.int (0 : Int32)), (.int (0 : Int32)), (.int (0 : Int32)), (.int (0 : Int32)), (.int (0 : Int32)), (.int (0 : Int32)), (.int (0 : Int32)), (.int (0 : Int32))] (.int 0) := by have q := Br9; exact q
  refine Run.pure hK (seg := [(58, .dup, 1), (59, .bipush 10, 2), (61, .bipush 101, 2)]) (by decide +kernel) (pc' := 63) (L' := #[]) (S' := [(.int (101 : Int32)), (.int (10 : Int32)), (.ref ar), (.ref ar)]) rfl ?_
  refine Run.cst hK Ar9 ⟨by decide, by decide⟩ gr (by decide +kernel) (fun hr10 Wr10 Br10 => ?_)
  have Ar10 : Arv Z hr10 ar kr .char (19 : Int32) [(.int 99), (.int 111), (.int 109), (.int 46), (.int 101), (.int 120), (.int 97), (.int 109), (.int 112), (.int 108), (.int 101), (.int (0 : Int32)), (.int (0 : Int32)), (.int (0 : Int32)), (.int (0 : Int32)), (.int (0 : Int32)), (.int (0 : Int32)), (.int (0 : Int32)), (.int (0 : Int32))] (.int 0) := by have q := Br10; exact q
  refine Run.pure hK (seg := [(64, .dup, 1), (65, .bipush 11, 2), (67, .bipush 46, 2)]) (by decide +kernel) (pc' := 69) (L' := #[]) (S' := [(.int (46 : Int32)), (.int (11 : Int32)), (.ref ar), (.ref ar)]) rfl ?_
  refine Run.cst hK Ar10 ⟨by decide, by decide⟩ gr (by decide +kernel) (fun hr11 Wr11 Br11 => ?_)
  have Ar11 : Arv Z hr11 ar kr .char (19 : Int32) [(.int 99), (.int 111), (.int 109), (.int 46), (.int 101), (.int 120), (.int 97), (.int 109), (.int 112), (.int 108), (.int 101), (.int 46), (.int (0 : Int32)), (.int (0 : Int32)), (.int (0 : Int32)), (.int (0 : Int32)), (.int (0 : Int32)), (.int (0 : Int32)), (.int (0 : Int32))] (.int 0) := by have q := Br11; exact q
  refine Run.pure hK (seg := [(70, .dup, 1), (71, .bipush 12, 2), (73, .bipush 107, 2)]) (by decide +kernel) (pc' := 75) (L' := #[]) (S' := [(.int (107 : Int32)), (.int (12 : Int32)), (.ref ar), (.ref ar)]) rfl ?_
  refine Run.cst hK Ar11 ⟨by decide, by decide⟩ gr (by decide +kernel) (fun hr12 Wr12 Br12 => ?_)
  have Ar12 : Arv Z hr12 ar kr .char (19 : Int32) [(.int 99), (.int 111), (.int 109), (.int 46), (.int 101), (.int 120), (.int 97), (.int 109), (.int 112), (.int 108), (.int 101), (.int 46), (.int 107), (.int (0 : Int32)), (.int (0 : Int32)), (.int (0 : Int32)), (.int (0 : Int32)), (.int (0 : Int32)), (.int (0 : Int32))] (.int 0) := by have q := Br12; exact q
  refine Run.pure hK (seg := [(76, .dup, 1), (77, .bipush 13, 2), (79, .bipush 101, 2)]) (by decide +kernel) (pc' := 81) (L' := #[]) (S' := [(.int (101 : Int32)), (.int (13 : Int32)), (.ref ar), (.ref ar)]) rfl ?_
  refine Run.cst hK Ar12 ⟨by decide, by decide⟩ gr (by decide +kernel) (fun hr13 Wr13 Br13 => ?_)
  have Ar13 : Arv Z hr13 ar kr .char (19 : Int32) [(.int 99), (.int 111), (.int 109), (.int 46), (.int 101), (.int 120), (.int 97), (.int 109), (.int 112), (.int 108), (.int 101), (.int 46), (.int 107), (.int 101), (.int (0 : Int32)), (.int (0 : Int32)), (.int (0 : Int32)), (.int (0 : Int32)), (.int (0 : Int32))] (.int 0) := by have q := Br13; exact q
  refine Run.pure hK (seg := [(82, .dup, 1), (83, .bipush 14, 2), (85, .bipush 101, 2)]) (by decide +kernel) (pc' := 87) (L' := #[]) (S' := [(.int (101 : Int32)), (.int (14 : Int32)), (.ref ar), (.ref ar)]) rfl ?_
  refine Run.cst hK Ar13 ⟨by decide, by decide⟩ gr (by decide +kernel) (fun hr14 Wr14 Br14 => ?_)
  have Ar14 : Arv Z hr14 ar kr .char (19 : Int32) [(.int 99), (.int 111), (.int 109), (.int 46), (.int 101), (.int 120), (.int 97), (.int 109), (.int 112), (.int 108), (.int 101), (.int 46), (.int 107), (.int 101), (.int 101), (.int (0 : Int32)), (.int (0 : Int32)), (.int (0 : Int32)), (.int (0 : Int32))] (.int 0) := by have q := Br14; exact q
  refine Run.pure hK (seg := [(88, .dup, 1), (89, .bipush 15, 2), (91, .bipush 108, 2)]) (by decide +kernel) (pc' := 93) (L' := #[]) (S' := [(.int (108 : Int32)), (.int (15 : Int32)), (.ref ar), (.ref ar)]) rfl ?_
  refine Run.cst hK Ar14 ⟨by decide, by decide⟩ gr (by decide +kernel) (fun hr15 Wr15 Br15 => ?_)
  have Ar15 : Arv Z hr15 ar kr .char (19 : Int32) [(.int 99), (.int 111), (.int 109), (.int 46), (.int 101), (.int 120), (.int 97), (.int 109), (.int 112), (.int 108), (.int 101), (.int 46), (.int 107), (.int 101), (.int 101), (.int 108), (.int (0 : Int32)), (.int (0 : Int32)), (.int (0 : Int32))] (.int 0) := by have q := Br15; exact q
  refine Run.pure hK (seg := [(94, .dup, 1), (95, .bipush 16, 2), (97, .bipush 115, 2)]) (by decide +kernel) (pc' := 99) (L' := #[]) (S' := [(.int (115 : Int32)), (.int (16 : Int32)), (.ref ar), (.ref ar)]) rfl ?_
  refine Run.cst hK Ar15 ⟨by decide, by decide⟩ gr (by decide +kernel) (fun hr16 Wr16 Br16 => ?_)
  have Ar16 : Arv Z hr16 ar kr .char (19 : Int32) [(.int 99), (.int 111), (.int 109), (.int 46), (.int 101), (.int 120), (.int 97), (.int 109), (.int 112), (.int 108), (.int 101), (.int 46), (.int 107), (.int 101), (.int 101), (.int 108), (.int 115), (.int (0 : Int32)), (.int (0 : Int32))] (.int 0) := by have q := Br16; exact q
  refine Run.pure hK (seg := [(100, .dup, 1), (101, .bipush 17, 2), (103, .bipush 111, 2)]) (by decide +kernel) (pc' := 105) (L' := #[]) (S' := [(.int (111 : Int32)), (.int (17 : Int32)), (.ref ar), (.ref ar)]) rfl ?_
  refine Run.cst hK Ar16 ⟨by decide, by decide⟩ gr (by decide +kernel) (fun hr17 Wr17 Br17 => ?_)
  have Ar17 : Arv Z hr17 ar kr .char (19 : Int32) [(.int 99), (.int 111), (.int 109), (.int 46), (.int 101), (.int 120), (.int 97), (.int 109), (.int 112), (.int 108), (.int 101), (.int 46), (.int 107), (.int 101), (.int 101), (.int 108), (.int 115), (.int 111), (.int (0 : Int32))] (.int 0) := by have q := Br17; exact q
  refine Run.pure hK (seg := [(106, .dup, 1), (107, .bipush 18, 2), (109, .bipush 110, 2)]) (by decide +kernel) (pc' := 111) (L' := #[]) (S' := [(.int (110 : Int32)), (.int (18 : Int32)), (.ref ar), (.ref ar)]) rfl ?_
  refine Run.cst hK Ar17 ⟨by decide, by decide⟩ gr (by decide +kernel) (fun hr18 Wr18 Br18 => ?_)
  have Ar18 : Arv Z hr18 ar kr .char (19 : Int32) [(.int 99), (.int 111), (.int 109), (.int 46), (.int 101), (.int 120), (.int 97), (.int 109), (.int 112), (.int 108), (.int 101), (.int 46), (.int 107), (.int 101), (.int 101), (.int 108), (.int 115), (.int 111), (.int 110)] (.int 0) := by have q := Br18; exact q
  exact Run.retw hK (i := .areturn) rfl (Or.inr (Or.inr (Or.inr (Or.inr ⟨rfl, rfl, rfl⟩)))) (by decide +kernel) (by decide) (by decide) ⟨ar, kr, rfl, Ar18, gr⟩
set_option maxRecDepth 65536 in
set_option maxHeartbeats 40000000 in
theorem c_can {l : Launch} {Z : State} {a0 : Array Value} {z0 : Int32} {fm : Value} (G : Env1 Z a0 z0 fm) (x0 : Int32) (h : Heap) (hx : ¬ x0 < 0 ∧ ¬ (255 : Int32) < x0) : Ctr Z consts_1 false l [] (⟨"java/lang/StringLatin1", "canEncode", "(C)Z"⟩ : MethodName) jdk_43_method_3_code 1 (some .boolean) ({ frames := 0, cells := 0, slots := 0, locals := 0 } : Room) #[(.int x0)] h [] (fun v h' => h' = h ∧ v = some (.int 1)) := by
  obtain ⟨hw, hEL, O2, P5, O4⟩ := id G
  refine Ctr.of_run (a0 := a0) (L0 := #[.val (.int x0)]) (plainFor_of_name pn_l1) hEL (by first | rfl | (simp [argsToLocals, Value.category, maxLocals]; done)) (fun K hK => ?_)
  refine Run.pure hK (seg := [(0, .iload_n 0, 1), (1, .sipush 255, 3)]) (by decide +kernel) (pc' := 4) (L' := #[.val (.int x0)]) (S' := [(.int (255 : Int32)), (.int x0)]) rfl ?_
  refine Run.icmp hK (cd := .gt) (o := 7) (by decide +kernel) (by decide) (pc' := 11) rfl (fun q => by exact absurd ((h_gt _ _).1 q) hx.2) (fun _ => ?_)
  refine Run.pure hK (seg := [(7, .iconst 1, 1), (8, .goto 4, 3)]) (by decide +kernel) (pc' := 12) (L' := #[.val (.int x0)]) (S' := [(.int (1 : Int32))]) rfl ?_
  exact Run.retw hK (i := .ireturn) rfl (Or.inl ⟨rfl, Or.inr (Or.inl rfl), _, rfl⟩) (by decide +kernel) (by decide) (by decide) ⟨rfl, rfl⟩
set_option maxRecDepth 65536 in
set_option maxHeartbeats 40000000 in
theorem c_tob {l : Launch} {Z : State} {a0 : Array Value} {z0 : Int32} {fm : Value} (G : Env1 Z a0 z0 fm) (x0 : Int32) (h : Heap) : Ctr Z consts_1 false l [] (⟨"java/lang/StringLatin1", "toBytes", "(C)[B"⟩ : MethodName) jdk_43_method_46_code 1 (some (.array .byte)) ({ frames := 0, cells := 1, slots := 1, locals := 0 } : Room) #[(.int x0)] h [] (fun v h' => ∃ a k, v = some (.ref a) ∧ Ext h h' ∧ Arv Z h' a k .byte 1 [.int (StrChars.lo8 x0)] (.int 0)) := by
  obtain ⟨hw, hEL, O2, P5, O4⟩ := id G
  refine Ctr.of_run (a0 := a0) (L0 := #[.val (.int x0)]) (plainFor_of_name pn_l1) hEL (by first | rfl | (simp [argsToLocals, Value.category, maxLocals]; done)) (fun K hK => ?_)
  refine Run.old (fun hO => ?_)
  refine Run.pure hK (seg := [(0, .iconst 1, 1)]) (by decide +kernel) (pc' := 1) (L' := #[.val (.int x0)]) (S' := [(.int (1 : Int32))]) rfl ?_
  refine Run.newarr hK (aty := .byte) (hw _ (List.mem_of_getElem? (i := 24) rfl)) (by decide +kernel) (by decide) (cap := 1) (by decide) (by decide) (by decide) (by decide) (fun hr kr Er Ar => ?_)
  obtain ⟨ar, zr⟩ : ∃ z, z = h.size := ⟨_, rfl⟩
  rw [← zr]
  rw [← zr] at Ar
  refine Run.pure hK (seg := [(3, .dup, 1), (4, .iconst 0, 1), (5, .iload_n 0, 1), (6, .i2b, 1)]) (by decide +kernel) (pc' := 7) (L' := #[.val (.int x0)]) (S' := [(.int x0.toInt8.toInt32), (.int (0 : Int32)), (.ref ar), (.ref ar)]) rfl ?_
  refine Run.bst hK Ar ⟨by decide, by decide⟩ (by rw [zr]; exact hO.1) (sfW (List.mem_cons_self ..)) (by decide +kernel) (fun h1 W1 B1 => ?_)
  have e1 : nar .byte x0.toInt8.toInt32 = StrChars.lo8 x0 := by
    show x0.toInt8.toInt32.toInt8.toInt32 = x0.toInt8.toInt32
    rw [Int8.toInt8_toInt32]
  rw [e1] at B1
  exact Run.retw hK (i := .areturn) rfl (Or.inr (Or.inr (Or.inr (Or.inr ⟨rfl, rfl, rfl⟩)))) (by decide +kernel) (by decide) (by decide) ⟨ar, kr, rfl, ext_wr Er W1 (by rw [zr]; exact Nat.le_refl _), B1⟩
set_option maxRecDepth 65536 in
set_option maxHeartbeats 40000000 in
theorem c_sbb {l : Launch} {Z : State} {a0 : Array Value} {z0 : Int32} {fm : Value} (G : Env1 Z a0 z0 fm) (x0 b0 : Addr) {kb : ClassId} {N : Int32} {vs : List Value} (h : Heap) (hx0 : Z.heap.size ≤ x0) (E : Exa Z h x0 "java/lang/String") {v0 c0 : Value} (V : Fld Z h x0 "java/lang/String" "value" "[B" v0) (C : Fld Z h x0 "java/lang/String" "coder" "B" c0) (A : Arv Z h b0 kb .byte N vs (.int 0)) : Ctr Z consts_1 false l [] (⟨"java/lang/String", "<init>", "([BB)V"⟩ : MethodName) jdk_42_method_151_code 3 none ({ frames := 1, cells := 0, slots := 0, locals := 12 } : Room) #[(.ref x0), (.ref b0), (.int (0 : Int32))] h [x0] (fun v h' => v = none ∧ Keep h h' [x0] ∧ Exa Z h' x0 "java/lang/String" ∧ Fld Z h' x0 "java/lang/String" "coder" "B" (.int 0) ∧ Fld Z h' x0 "java/lang/String" "value" "[B" (.ref b0) ∧ Arv Z h' b0 kb .byte N vs (.int 0)) := by
  obtain ⟨hw, hEL, O2, P5, O4⟩ := id G
  refine Ctr.of_run (a0 := a0) (L0 := #[.val (.ref x0), .val (.ref b0), .val (.int (0 : Int32))]) (plainFor_of_name pn_str) hEL (by first | rfl | (simp [argsToLocals, Value.category, maxLocals]; done)) (fun K hK => ?_)
  refine Run.pure hK (seg := [(0, .aload_n 0, 1)]) (by decide +kernel) (pc' := 1) (L' := #[.val (.ref x0), .val (.ref b0), .val (.int (0 : Int32))]) (S' := [(.ref x0)]) rfl ?_
  refine Run.initobj hK (index := 1) (hw _ (List.mem_of_getElem? (i := 16) rfl)) (hw _ (List.mem_of_getElem? (i := 17) rfl)) (hw _ (List.mem_of_getElem? (i := 18) rfl)) rfl (by decide +kernel) (by decide) (Wt := 0) (Nat.le_of_ble_eq_true rfl) (by decide) ?_
  refine Run.pure hK (seg := [(4, .aload_n 0, 1), (5, .aload_n 1, 1)]) (by decide +kernel) (pc' := 6) (L' := #[.val (.ref x0), .val (.ref b0), .val (.int (0 : Int32))]) (S' := [(.ref b0), (.ref x0)]) rfl ?_
  refine Run.putf hK (index := 9) (host := "") (Or.inl (hw _ (List.mem_of_getElem? (i := 33) rfl))) Via.refl V E (Or.inr ⟨(hw _ (List.mem_of_getElem? (i := 34) rfl)), rfl, rfl⟩) (hw _ (List.mem_of_getElem? (i := 7) rfl)) (ty := (.array .byte)) (by decide) rfl rfl hx0 (sfW (List.mem_singleton.mpr rfl)) (by decide +kernel) (fun h1 W1 => ?_)
  have hsl : Jvm.RoadKit.slotOf Z "java/lang/String" "coder" "B" ≠ Jvm.RoadKit.slotOf Z "java/lang/String" "value" "[B" := slot_ne (Or.inr (hw _ (List.mem_of_getElem? (i := 32) rfl))) (Or.inr (hw _ (List.mem_of_getElem? (i := 34) rfl))) (by decide) (by decide : parseFieldDescriptor "B" = some .byte) (by decide : parseFieldDescriptor "[B" = some (.array .byte))
  have nb : b0 ≠ x0 := (E.neArv A (hw _ (List.mem_of_getElem? (i := 7) rfl))).symm
  refine Run.pure hK (seg := [(9, .aload_n 0, 1), (10, .iload_n 2, 1)]) (by decide +kernel) (pc' := 11) (L' := #[.val (.ref x0), .val (.ref b0), .val (.int (0 : Int32))]) (S' := [(.int (0 : Int32)), (.ref x0)]) rfl ?_
  refine Run.putf hK (index := 15) (host := "") (Or.inl (hw _ (List.mem_of_getElem? (i := 31) rfl))) Via.refl (C.other W1 (Or.inr hsl)) (E.wr W1) (Or.inr ⟨(hw _ (List.mem_of_getElem? (i := 32) rfl)), rfl, rfl⟩) (hw _ (List.mem_of_getElem? (i := 7) rfl)) (ty := .byte) (by decide) rfl rfl hx0 (sfW (List.mem_singleton.mpr rfl)) (by decide +kernel) (fun h2 W2 => ?_)
  exact Run.retv hK (by decide +kernel) (by decide) (by decide) ⟨rfl, ((Keep.refl h [x0]).wr W1 (Or.inl (List.mem_singleton.mpr rfl))).wr W2 (Or.inl (List.mem_singleton.mpr rfl)), (E.wr W1).wr W2, (C.other W1 (Or.inr hsl)).same W2, (V.same W1).other W2 (Or.inr hsl.symm), (A.other W1 nb).other W2 nb⟩
set_option maxRecDepth 65536 in
set_option maxHeartbeats 40000000 in
theorem c_val {l : Launch} {Z : State} {a0 : Array Value} {z0 : Int32} {fm : Value} (G : Env1 Z a0 z0 fm) (x0 : Int32) (h : Heap) (hx : ¬ x0 < 0 ∧ ¬ (255 : Int32) < x0) : Ctr Z consts_1 false l [] (⟨"java/lang/String", "valueOf", "(C)Ljava/lang/String;"⟩ : MethodName) jdk_42_method_139_code 1 (some (.object "java/lang/String")) ({ frames := 2, cells := 2, slots := 5, locals := 40 } : Room) #[(.int x0)] h [] (fun v h' => ∃ a, v = some (.ref a) ∧ Str Z h' a [x0] ∧ Ext h h') := by
  obtain ⟨hw, hEL, O2, P5, O4⟩ := id G
  refine Ctr.of_run (a0 := a0) (L0 := #[.val (.int x0)]) (plainFor_of_name pn_str) hEL (by first | rfl | (simp [argsToLocals, Value.category, maxLocals]; done)) (fun K hK => ?_)
  refine Run.old (fun hO => ?_)
  refine Run.gets hK (index := 38) (hw _ (List.mem_of_getElem? (i := 19) rfl)) Via.refl (O2.ext hO) (by decide +kernel) ?_
  refine Run.ifz hK (cd := .eq) (o := 23) (by decide +kernel) (by decide) (pc' := 26) rfl (fun q => by replace q := (h_eq _ _).1 q; exact absurd q P5) (fun _ => ?_)
  refine Run.pure hK (seg := [(6, .iload_n 0, 1)]) (by decide +kernel) (pc' := 7) (L' := #[.val (.int x0)]) (S' := [(.int x0)]) rfl ?_
  refine Run.static hK (index := 1015) (y := (⟨"java/lang/StringLatin1", "canEncode", "(C)Z"⟩ : MethodName)) (Wt := 0) (kc := 0) (ks := 0) (hw _ (List.mem_of_getElem? (i := 60) rfl)) (hw _ (List.mem_of_getElem? (i := 61) rfl)) (hw _ (List.mem_of_getElem? (i := 50) rfl)) (hw _ (List.mem_of_getElem? (i := 62) rfl)) (by decide) (W' := []) (fun _ q => nomatch q) (Ctr.cal (c_can G x0 h hx) (hw _ (List.mem_of_getElem? (i := 62) rfl)) (hw _ (List.mem_of_getElem? (i := 50) rfl)) (by decide) (by decide)) rfl (argsL := [(.int x0)]) (rest := []) (lenOf pd_can rfl) rfl (Nat.le_of_ble_eq_true rfl) (by decide +kernel) (by decide) (by decide) (fun v1 h1 q1 n1 => ?_)
  obtain ⟨rfl, rfl⟩ := q1
  refine Run.ifz hK (cd := .eq) (o := 16) (by decide +kernel) (by decide) (pc' := 26) rfl (fun q => by replace q := (h_eq _ _).1 q; exact absurd q (by decide)) (fun _ => ?_)
  refine Run.new hK (index := 10) (C := "java/lang/String") (n := 4) (hw _ (List.mem_of_getElem? (i := 47) rfl)) (hw _ (List.mem_of_getElem? (i := 7) rfl)) (hw _ (List.mem_of_getElem? (i := 8) rfl)) (by decide +kernel) (by decide) (by decide) (fun hs0 Es0 Xs0 Ds0 => ?_)
  obtain ⟨as0, zs0⟩ : ∃ z, z = h1.size := ⟨_, rfl⟩
  rw [← zs0]
  rw [← zs0] at Xs0 Ds0
  refine Run.pure hK (seg := [(16, .dup, 1), (17, .iload_n 0, 1)]) (by decide +kernel) (pc' := 18) (L' := #[.val (.int x0)]) (S' := [(.int x0), (.ref as0), (.ref as0)]) rfl ?_
  refine Run.static hK (index := 1018) (y := (⟨"java/lang/StringLatin1", "toBytes", "(C)[B"⟩ : MethodName)) (Wt := 2) (kc := 1) (ks := 1) (hw _ (List.mem_of_getElem? (i := 63) rfl)) (hw _ (List.mem_of_getElem? (i := 64) rfl)) (hw _ (List.mem_of_getElem? (i := 50) rfl)) (hw _ (List.mem_of_getElem? (i := 65) rfl)) (by decide) (W' := []) (fun _ q => nomatch q) (Ctr.cal (c_tob G x0 hs0) (hw _ (List.mem_of_getElem? (i := 65) rfl)) (hw _ (List.mem_of_getElem? (i := 50) rfl)) (by decide) (by decide)) rfl (argsL := [(.int x0)]) (rest := [(.ref as0), (.ref as0)]) (lenOf pd_tob rfl) rfl (Nat.le_of_ble_eq_true rfl) (by decide +kernel) (by decide) (by decide) (fun v2 h2 q2 n2 => ?_)
  obtain ⟨b2, k2, rfl, E2, A2⟩ := q2
  have V := (Ds0 (Or.inr (hw _ (List.mem_of_getElem? (i := 34) rfl))) (ty := .array .byte) (by decide)).ext E2
  have C := (Ds0 (Or.inr (hw _ (List.mem_of_getElem? (i := 32) rfl))) (ty := .byte) (by decide)).ext E2
  refine Run.pure hK (seg := [(21, .iconst 0, 1)]) (by decide +kernel) (pc' := 22) (L' := #[.val (.int x0)]) (S' := [(.int (0 : Int32)), (.ref b2), (.ref as0), (.ref as0)]) rfl ?_
  refine Run.special hK (index := 209) (y := (⟨"java/lang/String", "<init>", "([BB)V"⟩ : MethodName)) (Wt := 1) (kc := 0) (ks := 0) rfl (hw _ (List.mem_of_getElem? (i := 66) rfl)) (hw _ (List.mem_of_getElem? (i := 67) rfl)) (hw _ (List.mem_of_getElem? (i := 68) rfl)) (by decide) (a := as0) (W' := [as0]) (fun x hx => by cases List.mem_singleton.mp hx; exact List.mem_cons_self ..) (Ctr.cal (c_sbb G as0 b2 h2 (by rw [zs0]; exact hO.1) (Xs0.ext E2) V C A2) (hw _ (List.mem_of_getElem? (i := 68) rfl)) (hw _ (List.mem_of_getElem? (i := 8) rfl)) (by decide) (by decide)) rfl (argsL := [(.ref b2), (.int (0 : Int32))]) (rest := [(.ref as0)]) (lenOf pd_sbb rfl) rfl (Nat.le_of_ble_eq_true rfl) (by decide +kernel) (by decide) (by decide) (fun v3 h3 q3 n3 => ?_)
  obtain ⟨rfl, K3, f1, f2, f3, f4⟩ := q3
  exact Run.retw hK (i := .areturn) rfl (Or.inr (Or.inr (Or.inr (Or.inr ⟨rfl, rfl, rfl⟩)))) (by decide +kernel) (by decide) (by decide) ⟨as0, rfl, ⟨f1, f2, ⟨b2, k2, f3, f4⟩, (fun c hc => by cases List.mem_singleton.mp hc; exact hx), Nat.le_of_ble_eq_true rfl⟩, ext_keep (Ext.tr Es0 E2) K3 (fun x hx => by cases List.mem_singleton.mp hx; rw [zs0]; exact Nat.le_refl _)⟩
set_option maxRecDepth 65536 in
set_option maxHeartbeats 40000000 in
theorem c_law {l : Launch} {Z : State} {a0 : Array Value} {z0 : Int32} {fm : Value} (G : Env1 Z a0 z0 fm) (i0 i1 i2 i3 : Int32) (h : Heap) : Ctr Z consts_1 false l tables_1 x code maxLocals ret room_1 #[(.int i0), (.int i1), (.int i2), (.int i3)] h [] (fun v h' => v = some (.int 1)) := by
  obtain ⟨hw, hEL, O2, P5, O4⟩ := id G
  refine Ctr.of_run (a0 := a0) (L0 := #[.val (.int i0), .val (.int i1), .val (.int i2), .val (.int i3), .unset, .unset, .unset, .unset, .unset]) (plainFor_of_name pn_law) hEL (by first | rfl | (simp [argsToLocals, Value.category, maxLocals]; done)) (fun K hK => ?_)
  replace hK : Ok Z consts_1 a0 l "com/example/keelson/keelson/module/SystemBundleNamedPinLaw" "law" code 9 (some .boolean) room_1 K := hK
  refine Run.pure hK (seg := [(0, .iload_n 0, 1)]) (by decide +kernel) (pc' := 1) (L' := #[.val (.int i0), .val (.int i1), .val (.int i2), .val (.int i3), .unset, .unset, .unset, .unset, .unset]) (S' := [(.int i0)]) rfl ?_
  refine Run.ldci hK (index := 7) (hw _ (List.mem_of_getElem? (i := 0) rfl)) (by decide +kernel) ?_
  refine Run.pure hK (seg := [(3, .iand, 1), (4, .iconst 4, 1), (5, .irem, 1), (6, .istore 4, 2)]) (by decide +kernel) (pc' := 8) (L' := #[.val (.int i0), .val (.int i1), .val (.int i2), .val (.int i3), .val (.int ((i0 &&& (2147483647 : Int32)) % (4 : Int32))), .unset, .unset, .unset, .unset]) (S' := []) rfl ?_
  obtain ⟨m, e_m⟩ : ∃ z : Int32, z = ((i0 &&& (2147483647 : Int32)) % (4 : Int32)) := ⟨_, rfl⟩
  rw [← e_m]
  clear e_m
  refine Run.pure hK (seg := [(8, .iload_n 2, 1), (9, .sipush 255, 3), (12, .iand, 1), (13, .i2c, 1), (14, .istore 5, 2)]) (by decide +kernel) (pc' := 16) (L' := #[.val (.int i0), .val (.int i1), .val (.int i2), .val (.int i3), .val (.int m), .val (.int (i2 &&& (255 : Int32)).toUInt32.toUInt16.toUInt32.toInt32), .unset, .unset, .unset]) (S' := []) rfl ?_
  rw [i2c255]
  have bc := m255 i2
  obtain ⟨cc, e_c⟩ : ∃ z : Int32, z = i2 &&& 255 := ⟨_, rfl⟩
  rw [← e_c] at bc ⊢
  clear e_c
  have join0 : ∀ (hh : Heap) (ar : Addr) (kk : ClassId) (cs : List Int32) (W : List Addr), Arv Z hh ar kk .char (Int32.ofNat cs.length) (cs.map Value.int) (.int 0) → Z.heap.size ≤ ar → (cs = ALI ∨ cs = OWN) → Run Z consts_1 false K (fun v h' => v = some (.int 1)) W hh 1 19 36 #[.val (.int i0), .val (.int i1), .val (.int i2), .val (.int i3), .val (.int m), .val (.int cc), .unset, .unset, .unset] [(.ref ar)] := by
    intro hh ar kk cs W A ga hcs
    have hl : cs.length = 13 ∨ cs.length = 19 := by rcases hcs with rfl | rfl; exact Or.inl rfl; exact Or.inr rfl
    have hin : ∀ c ∈ cs, ¬ c < 0 ∧ ¬ (255 : Int32) < c := by rcases hcs with rfl | rfl <;> decide
    have hN := ofN (n := cs.length) (by omega)
    refine Run.pure hK (seg := [(36, .astore 6, 2), (38, .iload_n 1, 1)]) (by decide +kernel) (pc' := 39) (L' := #[.val (.int i0), .val (.int i1), .val (.int i2), .val (.int i3), .val (.int m), .val (.int cc), .val (.ref ar), .unset, .unset]) (S' := [(.int i1)]) rfl ?_
    refine Run.ldci hK (index := 7) (hw _ (List.mem_of_getElem? (i := 0) rfl)) (by decide +kernel) ?_
    refine Run.pure hK (seg := [(41, .iand, 1), (42, .aload 6, 2)]) (by decide +kernel) (pc' := 44) (L' := #[.val (.int i0), .val (.int i1), .val (.int i2), .val (.int i3), .val (.int m), .val (.int cc), .val (.ref ar), .unset, .unset]) (S' := [(.ref ar), (.int (i1 &&& (2147483647 : Int32)))]) rfl ?_
    refine Run.alen hK A (by decide +kernel) ?_
    have hp : 0 ≤ ((i1 &&& (2147483647 : Int32)) % Int32.ofNat cs.length).toInt ∧ ((i1 &&& (2147483647 : Int32)) % Int32.ofNat cs.length).toInt < cs.length := by
      have q1 := c_and i1 2147483647 (by decide)
      have q2 := (c_irem (i1 &&& 2147483647) (Int32.ofNat cs.length) cs.length hN).1 q1.1
      rcases hl with e | e <;> rw [e] at q2 ⊢ <;> omega
    refine Run.irem hK (by decide +kernel) (fun z => by have q := hN; rw [z, tI0] at q; omega) ?_
    obtain ⟨pp, e_p⟩ : ∃ z : Int32, z = ((i1 &&& (2147483647 : Int32)) % Int32.ofNat cs.length) := ⟨_, rfl⟩
    rw [← e_p] at hp ⊢
    clear e_p
    have hj : ¬ pp < 0 ∧ pp < Int32.ofNat cs.length := by rw [Int32.lt_iff_toInt_lt, Int32.lt_iff_toInt_lt, hN, tI0]; omega
    have hpi : pp.toNatClampNeg < cs.length := by simp only [Int32.toNatClampNeg]; omega
    refine Run.pure hK (seg := [(46, .istore 7, 2), (48, .aload 6, 2), (50, .iload 7, 2)]) (by decide +kernel) (pc' := 52) (L' := #[.val (.int i0), .val (.int i1), .val (.int i2), .val (.int i3), .val (.int m), .val (.int cc), .val (.ref ar), .val (.int pp), .unset]) (S' := [(.int pp), (.ref ar)]) rfl ?_
    refine Run.ald hK (i := .caload) (v := (.int (cs.getD pp.toNatClampNeg 0))) A (Or.inl ⟨rfl, rfl⟩) hj (getD_mapI _ _) (by decide +kernel) ?_
    refine Run.pure hK (seg := [(53, .istore 8, 2), (55, .aload 6, 2), (57, .iload 7, 2), (59, .iload 5, 2)]) (by decide +kernel) (pc' := 61) (L' := #[.val (.int i0), .val (.int i1), .val (.int i2), .val (.int i3), .val (.int m), .val (.int cc), .val (.ref ar), .val (.int pp), .val (.int (cs.getD pp.toNatClampNeg 0))]) (S' := [(.int cc), (.int pp), (.ref ar)]) rfl ?_
    refine Run.cst hK A hj ga (by decide +kernel) (fun hwr Wwr Bw => ?_)
    rw [nc bc, set_map _ _ _ _ (ofN_nat (by omega))] at Bw
    have hin' : ∀ c ∈ cs.set pp.toNatClampNeg cc, ¬ c < 0 ∧ ¬ (255 : Int32) < c := fun c hc => (List.mem_or_eq_of_mem_set hc).elim (hin c) (fun e => e ▸ bc)
    have hl' : (cs.set pp.toNatClampNeg cc).length = cs.length := List.length_set
    refine Run.old (fun hOs1 => ?_)
    refine Run.new hK (index := 17) (C := "java/lang/String") (n := 4) (hw _ (List.mem_of_getElem? (i := 6) rfl)) (hw _ (List.mem_of_getElem? (i := 7) rfl)) (hw _ (List.mem_of_getElem? (i := 8) rfl)) (by decide +kernel) (by decide) (by decide) (fun hs1 Es1 Xs1 Ds1 => ?_)
    obtain ⟨as1, zs1⟩ : ∃ z, z = hwr.size := ⟨_, rfl⟩
    rw [← zs1]
    rw [← zs1] at Xs1 Ds1
    refine Run.pure hK (seg := [(65, .dup, 1), (66, .aload 6, 2)]) (by decide +kernel) (pc' := 68) (L' := #[.val (.int i0), .val (.int i1), .val (.int i2), .val (.int i3), .val (.int m), .val (.int cc), .val (.ref ar), .val (.int pp), .val (.int (cs.getD pp.toNatClampNeg 0))]) (S' := [(.ref ar), (.ref as1), (.ref as1)]) rfl ?_
    have Vs1 := Ds1 (Or.inr (hw _ (List.mem_of_getElem? (i := 34) rfl))) (ty := .array .byte) (by decide)
    have Cs1 := Ds1 (Or.inr (hw _ (List.mem_of_getElem? (i := 32) rfl))) (ty := .byte) (by decide)
    refine Run.special hK (index := 19) (y := (⟨"java/lang/String", "<init>", "([C)V"⟩ : MethodName)) (Wt := 1) (kc := 4) (ks := 19) rfl (hw _ (List.mem_of_getElem? (i := 9) rfl)) (hw _ (List.mem_of_getElem? (i := 10) rfl)) (hw _ (List.mem_of_getElem? (i := 11) rfl)) (by decide) (a := as1) (fun _ q => q) (cal_newS G (cs := (cs.set pp.toNatClampNeg cc)) (by rw [zs1]; exact hOs1.1) (List.mem_cons_self ..) Xs1 Vs1 Cs1 (Bw.ext Es1) (by rw [hl']) (by rw [hl']; omega) hin' (by decide) (by decide) (kc := 4) (ks := 19) (by decide) (by decide) (by rw [hl']; omega)) rfl (argsL := [(.ref ar)]) (rest := [(.ref as1)]) (lenOf pd_s1 rfl) rfl (Nat.le_of_ble_eq_true rfl) (by decide +kernel) (by decide) (by decide) (fun vs1i hs1i qs1i ns1i => ?_)
    obtain ⟨rfl, Fs1, Ks1⟩ := qs1i
    have Ts1 := ext_keep Es1 Ks1 (fun x hx => by cases List.mem_singleton.mp hx; rw [zs1]; exact Nat.le_refl _)
    refine Run.static hK (index := 22) (y := (⟨"com/example/keelson/keelson/module/SystemBundle", "named", "(Ljava/lang/String;)Z"⟩ : MethodName)) (Wt := 0) (kc := 4) (ks := 136) (hw _ (List.mem_of_getElem? (i := 35) rfl)) (hw _ (List.mem_of_getElem? (i := 36) rfl)) (hw _ (List.mem_of_getElem? (i := 37) rfl)) (hw _ (List.mem_of_getElem? (i := 38) rfl)) (by decide) (W' := []) (fun _ q => nomatch q) (Ctr.cal (c_named G as1 hs1i Fs1) (hw _ (List.mem_of_getElem? (i := 38) rfl)) (hw _ (List.mem_of_getElem? (i := 37) rfl)) (by decide) (by decide)) rfl (argsL := [(.ref as1)]) (rest := []) (lenOf pd_named rfl) rfl (Nat.le_of_ble_eq_true rfl) (by decide +kernel) (by decide) (by decide) (fun vn hn qn nn => ?_)
    obtain rfl := qn
    have key : (cs.set pp.toNatClampNeg cc = ALI ∨ cs.set pp.toNatClampNeg cc = OWN) ↔ cc = cs.getD pp.toNatClampNeg 0 := by
      rw [← set_eq hpi]
      constructor
      · intro z
        rcases z with z | z <;> rcases hcs with e | e
        · rw [e]; rw [e] at z; exact z
        · exfalso; have q := congrArg List.length z; rw [hl', e] at q; exact absurd q (by decide)
        · exfalso; have q := congrArg List.length z; rw [hl', e] at q; exact absurd q (by decide)
        · rw [e]; rw [e] at z; exact z
      · intro z; rw [z]; exact hcs
    refine Run.pure hK (seg := [(74, .iload 5, 2), (76, .iload 8, 2)]) (by decide +kernel) (pc' := 78) (L' := #[.val (.int i0), .val (.int i1), .val (.int i2), .val (.int i3), .val (.int m), .val (.int cc), .val (.ref ar), .val (.int pp), .val (.int (cs.getD pp.toNatClampNeg 0))]) (S' := [(.int (cs.getD pp.toNatClampNeg 0)), (.int cc), (.int (if cs.set pp.toNatClampNeg cc = ALI ∨ cs.set pp.toNatClampNeg cc = OWN then 1 else 0))]) rfl ?_
    refine Run.icmp hK (cd := .ne) (o := 7) (by decide +kernel) (by decide) (pc' := 85) rfl (fun qc => ?_) (fun qc => ?_)
    · replace qc := (h_ne _ _).1 qc
      rw [if_neg (fun z => qc (key.mp z))]
      refine Run.pure hK (seg := [(85, .iconst 0, 1)]) (by decide +kernel) (pc' := 86) (L' := #[.val (.int i0), .val (.int i1), .val (.int i2), .val (.int i3), .val (.int m), .val (.int cc), .val (.ref ar), .val (.int pp), .val (.int (cs.getD pp.toNatClampNeg 0))]) (S' := [(.int (0 : Int32)), (.int (0 : Int32))]) rfl ?_
      refine Run.icmp hK (cd := .ne) (o := 7) (by decide +kernel) (by decide) (pc' := 93) rfl (fun q => by replace q := (h_ne _ _).1 q; exact absurd rfl q) (fun _ => ?_)
      refine Run.pure hK (seg := [(89, .iconst 1, 1), (90, .goto 4, 3)]) (by decide +kernel) (pc' := 94) (L' := #[.val (.int i0), .val (.int i1), .val (.int i2), .val (.int i3), .val (.int m), .val (.int cc), .val (.ref ar), .val (.int pp), .val (.int (cs.getD pp.toNatClampNeg 0))]) (S' := [(.int (1 : Int32))]) rfl ?_
      exact Run.retw hK (i := .ireturn) rfl (Or.inl ⟨rfl, Or.inr (Or.inl rfl), _, rfl⟩) (by decide +kernel) (by decide) (by decide) rfl
    · replace qc := (h_ne _ _).2 qc
      rw [if_pos (key.mpr qc)]
      refine Run.pure hK (seg := [(81, .iconst 1, 1), (82, .goto 4, 3)]) (by decide +kernel) (pc' := 86) (L' := #[.val (.int i0), .val (.int i1), .val (.int i2), .val (.int i3), .val (.int m), .val (.int cc), .val (.ref ar), .val (.int pp), .val (.int (cs.getD pp.toNatClampNeg 0))]) (S' := [(.int (1 : Int32)), (.int (1 : Int32))]) rfl ?_
      refine Run.icmp hK (cd := .ne) (o := 7) (by decide +kernel) (by decide) (pc' := 93) rfl (fun q => by replace q := (h_ne _ _).1 q; exact absurd rfl q) (fun _ => ?_)
      refine Run.pure hK (seg := [(89, .iconst 1, 1), (90, .goto 4, 3)]) (by decide +kernel) (pc' := 94) (L' := #[.val (.int i0), .val (.int i1), .val (.int i2), .val (.int i3), .val (.int m), .val (.int cc), .val (.ref ar), .val (.int pp), .val (.int (cs.getD pp.toNatClampNeg 0))]) (S' := [(.int (1 : Int32))]) rfl ?_
      exact Run.retw hK (i := .ireturn) rfl (Or.inl ⟨rfl, Or.inr (Or.inl rfl), _, rfl⟩) (by decide +kernel) (by decide) (by decide) rfl
  refine Run.pure hK (seg := [(16, .iload 4, 2)]) (by decide +kernel) (pc' := 18) (L' := #[.val (.int i0), .val (.int i1), .val (.int i2), .val (.int i3), .val (.int m), .val (.int cc), .unset, .unset, .unset]) (S' := [(.int m)]) rfl ?_
  refine Run.ifz hK (cd := .ne) (o := 77) (by decide +kernel) (by decide) (pc' := 95) rfl (fun qm0 => ?_) (fun qm0 => ?_)
  · replace qm0 := (h_ne _ _).1 qm0
    refine Run.pure hK (seg := [(95, .iload 4, 2), (97, .iconst 1, 1)]) (by decide +kernel) (pc' := 98) (L' := #[.val (.int i0), .val (.int i1), .val (.int i2), .val (.int i3), .val (.int m), .val (.int cc), .unset, .unset, .unset]) (S' := [(.int (1 : Int32)), (.int m)]) rfl ?_
    refine Run.icmp hK (cd := .ne) (o := 439) (by decide +kernel) (by decide) (pc' := 537) rfl (fun qm1 => ?_) (fun qm1 => ?_)
    · replace qm1 := (h_ne _ _).1 qm1
      refine Run.pure hK (seg := [(537, .iload 4, 2), (539, .iconst 2, 1)]) (by decide +kernel) (pc' := 540) (L' := #[.val (.int i0), .val (.int i1), .val (.int i2), .val (.int i3), .val (.int m), .val (.int cc), .unset, .unset, .unset]) (S' := [(.int (2 : Int32)), (.int m)]) rfl ?_
      refine Run.icmp hK (cd := .ne) (o := 74) (by decide +kernel) (by decide) (pc' := 614) rfl (fun qm2 => ?_) (fun qm2 => ?_)
      · replace qm2 := (h_ne _ _).1 qm2
        have join3 : ∀ (hh : Heap) (sr : Addr) (cs : List Int32) (W : List Addr), Str Z hh sr cs → cs.length ≠ 13 → cs.length ≠ 19 → Run Z consts_1 false K (fun v h' => v = some (.int 1)) W hh 6 16 638 #[.val (.int i0), .val (.int i1), .val (.int i2), .val (.int i3), .val (.int m), .val (.int cc), .unset, .unset, .unset] [(.ref sr)] := by
          intro hh sr cs W F h1 h2
          refine Run.pure hK (seg := [(638, .astore 6, 2), (640, .aload 6, 2)]) (by decide +kernel) (pc' := 642) (L' := #[.val (.int i0), .val (.int i1), .val (.int i2), .val (.int i3), .val (.int m), .val (.int cc), .val (.ref sr), .unset, .unset]) (S' := [(.ref sr)]) rfl ?_
          refine Run.static hK (index := 22) (y := (⟨"com/example/keelson/keelson/module/SystemBundle", "named", "(Ljava/lang/String;)Z"⟩ : MethodName)) (Wt := 0) (kc := 4) (ks := 136) (hw _ (List.mem_of_getElem? (i := 35) rfl)) (hw _ (List.mem_of_getElem? (i := 36) rfl)) (hw _ (List.mem_of_getElem? (i := 37) rfl)) (hw _ (List.mem_of_getElem? (i := 38) rfl)) (by decide) (W' := []) (fun _ q => nomatch q) (Ctr.cal (c_named G sr hh F) (hw _ (List.mem_of_getElem? (i := 38) rfl)) (hw _ (List.mem_of_getElem? (i := 37) rfl)) (by decide) (by decide)) rfl (argsL := [(.ref sr)]) (rest := []) (lenOf pd_named rfl) rfl (Nat.le_of_ble_eq_true rfl) (by decide +kernel) (by decide) (by decide) (fun vn4 hn4 qn4 nn4 => ?_)
          obtain rfl := qn4
          rw [if_neg (ne_len h1 h2)]
          refine Run.ifz hK (cd := .ne) (o := 7) (by decide +kernel) (by decide) (pc' := 652) rfl (fun q => by replace q := (h_ne _ _).1 q; exact absurd rfl q) (fun _ => ?_)
          refine Run.pure hK (seg := [(648, .iconst 1, 1), (649, .goto 4, 3)]) (by decide +kernel) (pc' := 653) (L' := #[.val (.int i0), .val (.int i1), .val (.int i2), .val (.int i3), .val (.int m), .val (.int cc), .val (.ref sr), .unset, .unset]) (S' := [(.int (1 : Int32))]) rfl ?_
          exact Run.retw hK (i := .ireturn) rfl (Or.inl ⟨rfl, Or.inr (Or.inl rfl), _, rfl⟩) (by decide +kernel) (by decide) (by decide) rfl
        refine Run.pure hK (seg := [(614, .iload_n 3, 1), (615, .iconst 1, 1), (616, .iand, 1)]) (by decide +kernel) (pc' := 617) (L' := #[.val (.int i0), .val (.int i1), .val (.int i2), .val (.int i3), .val (.int m), .val (.int cc), .unset, .unset, .unset]) (S' := [(.int (i3 &&& (1 : Int32)))]) rfl ?_
        refine Run.ifz hK (cd := .ne) (o := 16) (by decide +kernel) (by decide) (pc' := 633) rfl (fun qw3 => ?_) (fun qw3 => ?_)
        · replace qw3 := (h_ne _ _).1 qw3
          refine Run.pure hK (seg := [(633, .iload 5, 2)]) (by decide +kernel) (pc' := 635) (L' := #[.val (.int i0), .val (.int i1), .val (.int i2), .val (.int i3), .val (.int m), .val (.int cc), .unset, .unset, .unset]) (S' := [(.int cc)]) rfl ?_
          refine Run.static hK (index := 28) (y := (⟨"java/lang/String", "valueOf", "(C)Ljava/lang/String;"⟩ : MethodName)) (Wt := 0) (kc := 2) (ks := 5) (hw _ (List.mem_of_getElem? (i := 57) rfl)) (hw _ (List.mem_of_getElem? (i := 58) rfl)) (hw _ (List.mem_of_getElem? (i := 8) rfl)) (hw _ (List.mem_of_getElem? (i := 59) rfl)) (by decide) (W' := []) (fun _ q => nomatch q) (Ctr.cal (c_val G cc h bc) (hw _ (List.mem_of_getElem? (i := 59) rfl)) (hw _ (List.mem_of_getElem? (i := 8) rfl)) (by decide) (by decide)) rfl (argsL := [(.int cc)]) (rest := []) (lenOf pd_val rfl) rfl (Nat.le_of_ble_eq_true rfl) (by decide +kernel) (by decide) (by decide) (fun vv hv qv nv => ?_)
          obtain ⟨sv, rfl, Fv, Ev⟩ := qv
          exact Run.mono (join3 _ _ [cc] _ Fv (by show 1 ≠ 13; decide) (by show 1 ≠ 19; decide)) (by decide) (by decide)
        · replace qw3 := (h_ne _ _).2 qw3
          refine Run.old (fun hO => ?_)
          refine Run.new hK (index := 17) (C := "java/lang/String") (n := 4) (hw _ (List.mem_of_getElem? (i := 6) rfl)) (hw _ (List.mem_of_getElem? (i := 7) rfl)) (hw _ (List.mem_of_getElem? (i := 8) rfl)) (by decide +kernel) (by decide) (by decide) (fun he Ee Xe De => ?_)
          obtain ⟨ae, ze⟩ : ∃ z, z = h.size := ⟨_, rfl⟩
          rw [← ze]
          rw [← ze] at Xe De
          refine Run.pure hK (seg := [(623, .dup, 1), (624, .iconst 0, 1)]) (by decide +kernel) (pc' := 625) (L' := #[.val (.int i0), .val (.int i1), .val (.int i2), .val (.int i3), .val (.int m), .val (.int cc), .unset, .unset, .unset]) (S' := [(.int (0 : Int32)), (.ref ae), (.ref ae)]) rfl ?_
          refine Run.newarr hK (aty := .char) (hw _ (List.mem_of_getElem? (i := 5) rfl)) (by decide +kernel) (by decide) (cap := 0) (by decide) (by decide) (by decide) (by decide) (fun hy ky Ey Ay => ?_)
          obtain ⟨ay, zy⟩ : ∃ z, z = he.size := ⟨_, rfl⟩
          rw [← zy]
          rw [← zy] at Ay
          have Ve := (De (Or.inr (hw _ (List.mem_of_getElem? (i := 34) rfl))) (ty := .array .byte) (by decide)).ext Ey
          have Ce := (De (Or.inr (hw _ (List.mem_of_getElem? (i := 32) rfl))) (ty := .byte) (by decide)).ext Ey
          refine Run.special hK (index := 19) (y := (⟨"java/lang/String", "<init>", "([C)V"⟩ : MethodName)) (Wt := 1) (kc := 4) (ks := 8) rfl (hw _ (List.mem_of_getElem? (i := 9) rfl)) (hw _ (List.mem_of_getElem? (i := 10) rfl)) (hw _ (List.mem_of_getElem? (i := 11) rfl)) (by decide) (a := ae) (fun _ q => q) (cal_newS G (cs := []) (by rw [ze]; exact hO.1) (List.mem_cons_of_mem _ (List.mem_cons_self ..)) (Xe.ext Ey) Ve Ce Ay rfl (Nat.le_of_ble_eq_true rfl) (fun _ q => nomatch q) (by decide) (by decide) (kc := 4) (ks := 8) (by decide) (by decide) (Nat.le_of_ble_eq_true rfl)) rfl (argsL := [(.ref ay)]) (rest := [(.ref ae)]) (lenOf pd_s1 rfl) rfl (Nat.le_of_ble_eq_true rfl) (by decide +kernel) (by decide) (by decide) (fun vei hei qei nei => ?_)
          obtain ⟨rfl, Fe, Ke⟩ := qei
          refine Run.pure hK (seg := [(630, .goto 8, 3)]) (by decide +kernel) (pc' := 638) (L' := #[.val (.int i0), .val (.int i1), .val (.int i2), .val (.int i3), .val (.int m), .val (.int cc), .unset, .unset, .unset]) (S' := [(.ref ae)]) rfl ?_
          exact Run.mono (join3 _ _ [] _ Fe (by show 0 ≠ 13; decide) (by show 0 ≠ 19; decide)) (by decide) (by decide)
      · replace qm2 := (h_ne _ _).2 qm2
        refine Run.old (fun hO => ?_)
        refine Run.pure hK (seg := [(543, .iconst 4, 1)]) (by decide +kernel) (pc' := 544) (L' := #[.val (.int i0), .val (.int i1), .val (.int i2), .val (.int i3), .val (.int m), .val (.int cc), .unset, .unset, .unset]) (S' := [(.int (4 : Int32))]) rfl ?_
        refine Run.newarr hK (aty := .char) (hw _ (List.mem_of_getElem? (i := 5) rfl)) (by decide +kernel) (by decide) (cap := 4) (by decide) (by decide) (by decide) (by decide) (fun hf kf Ef Af => ?_)
        obtain ⟨af, zf⟩ : ∃ z, z = h.size := ⟨_, rfl⟩
        rw [← zf]
        rw [← zf] at Af
        have gf : Z.heap.size ≤ af := by rw [zf]; exact hO.1
        refine Run.pure hK (seg := [(546, .dup, 1), (547, .iconst 0, 1), (548, .iload_n 3, 1), (549, .sipush 255, 3), (552, .iand, 1), (553, .i2c, 1)]) (by decide +kernel) (pc' := 554) (L' := #[.val (.int i0), .val (.int i1), .val (.int i2), .val (.int i3), .val (.int m), .val (.int cc), .unset, .unset, .unset]) (S' := [(.int (i3 &&& (255 : Int32)).toUInt32.toUInt16.toUInt32.toInt32), (.int (0 : Int32)), (.ref af), (.ref af)]) rfl ?_
        rw [i2c255]
        refine Run.cst hK Af ⟨by decide, by decide⟩ gf (by decide +kernel) (fun hf0 Wf0 Bf0 => ?_)
        have Af0 : Arv Z hf0 af kf .char (4 : Int32) [(.int (i3 &&& 255)), (.int (0 : Int32)), (.int (0 : Int32)), (.int (0 : Int32))] (.int 0) := by have q := Bf0; rw [nc (m255 i3)] at q; exact q
        refine Run.pure hK (seg := [(555, .dup, 1), (556, .iconst 1, 1), (557, .iload_n 3, 1), (558, .bipush 8, 2), (560, .iushr, 1), (561, .sipush 255, 3), (564, .iand, 1), (565, .i2c, 1)]) (by decide +kernel) (pc' := 566) (L' := #[.val (.int i0), .val (.int i1), .val (.int i2), .val (.int i3), .val (.int m), .val (.int cc), .unset, .unset, .unset]) (S' := [(.int ((XT.ushr i3 (8 : Int32)) &&& (255 : Int32)).toUInt32.toUInt16.toUInt32.toInt32), (.int (1 : Int32)), (.ref af), (.ref af)]) rfl ?_
        rw [i2c255]
        refine Run.cst hK Af0 ⟨by decide, by decide⟩ gf (by decide +kernel) (fun hf1 Wf1 Bf1 => ?_)
        have Af1 : Arv Z hf1 af kf .char (4 : Int32) [(.int (i3 &&& 255)), (.int ((XT.ushr i3 (8 : Int32)) &&& 255)), (.int (0 : Int32)), (.int (0 : Int32))] (.int 0) := by have q := Bf1; rw [nc (m255 (XT.ushr i3 8))] at q; exact q
        refine Run.pure hK (seg := [(567, .dup, 1), (568, .iconst 2, 1), (569, .iload_n 3, 1), (570, .bipush 16, 2), (572, .iushr, 1), (573, .sipush 255, 3), (576, .iand, 1), (577, .i2c, 1)]) (by decide +kernel) (pc' := 578) (L' := #[.val (.int i0), .val (.int i1), .val (.int i2), .val (.int i3), .val (.int m), .val (.int cc), .unset, .unset, .unset]) (S' := [(.int ((XT.ushr i3 (16 : Int32)) &&& (255 : Int32)).toUInt32.toUInt16.toUInt32.toInt32), (.int (2 : Int32)), (.ref af), (.ref af)]) rfl ?_
        rw [i2c255]
        refine Run.cst hK Af1 ⟨by decide, by decide⟩ gf (by decide +kernel) (fun hf2 Wf2 Bf2 => ?_)
        have Af2 : Arv Z hf2 af kf .char (4 : Int32) [(.int (i3 &&& 255)), (.int ((XT.ushr i3 (8 : Int32)) &&& 255)), (.int ((XT.ushr i3 (16 : Int32)) &&& 255)), (.int (0 : Int32))] (.int 0) := by have q := Bf2; rw [nc (m255 (XT.ushr i3 16))] at q; exact q
        refine Run.pure hK (seg := [(579, .dup, 1), (580, .iconst 3, 1), (581, .iload_n 3, 1), (582, .bipush 24, 2), (584, .iushr, 1), (585, .sipush 255, 3), (588, .iand, 1), (589, .i2c, 1)]) (by decide +kernel) (pc' := 590) (L' := #[.val (.int i0), .val (.int i1), .val (.int i2), .val (.int i3), .val (.int m), .val (.int cc), .unset, .unset, .unset]) (S' := [(.int ((XT.ushr i3 (24 : Int32)) &&& (255 : Int32)).toUInt32.toUInt16.toUInt32.toInt32), (.int (3 : Int32)), (.ref af), (.ref af)]) rfl ?_
        rw [i2c255]
        refine Run.cst hK Af2 ⟨by decide, by decide⟩ gf (by decide +kernel) (fun hf3 Wf3 Bf3 => ?_)
        have Af3 : Arv Z hf3 af kf .char (4 : Int32) [(.int (i3 &&& 255)), (.int ((XT.ushr i3 (8 : Int32)) &&& 255)), (.int ((XT.ushr i3 (16 : Int32)) &&& 255)), (.int ((XT.ushr i3 (24 : Int32)) &&& 255))] (.int 0) := by have q := Bf3; rw [nc (m255 (XT.ushr i3 24))] at q; exact q
        refine Run.pure hK (seg := [(591, .astore 6, 2)]) (by decide +kernel) (pc' := 593) (L' := #[.val (.int i0), .val (.int i1), .val (.int i2), .val (.int i3), .val (.int m), .val (.int cc), .val (.ref af), .unset, .unset]) (S' := []) rfl ?_
        refine Run.old (fun hOs3 => ?_)
        refine Run.new hK (index := 17) (C := "java/lang/String") (n := 4) (hw _ (List.mem_of_getElem? (i := 6) rfl)) (hw _ (List.mem_of_getElem? (i := 7) rfl)) (hw _ (List.mem_of_getElem? (i := 8) rfl)) (by decide +kernel) (by decide) (by decide) (fun hs3 Es3 Xs3 Ds3 => ?_)
        obtain ⟨as3, zs3⟩ : ∃ z, z = hf3.size := ⟨_, rfl⟩
        rw [← zs3]
        rw [← zs3] at Xs3 Ds3
        refine Run.pure hK (seg := [(596, .dup, 1), (597, .aload 6, 2)]) (by decide +kernel) (pc' := 599) (L' := #[.val (.int i0), .val (.int i1), .val (.int i2), .val (.int i3), .val (.int m), .val (.int cc), .val (.ref af), .unset, .unset]) (S' := [(.ref af), (.ref as3), (.ref as3)]) rfl ?_
        have Vs3 := Ds3 (Or.inr (hw _ (List.mem_of_getElem? (i := 34) rfl))) (ty := .array .byte) (by decide)
        have Cs3 := Ds3 (Or.inr (hw _ (List.mem_of_getElem? (i := 32) rfl))) (ty := .byte) (by decide)
        refine Run.special hK (index := 19) (y := (⟨"java/lang/String", "<init>", "([C)V"⟩ : MethodName)) (Wt := 1) (kc := 4) (ks := 8) rfl (hw _ (List.mem_of_getElem? (i := 9) rfl)) (hw _ (List.mem_of_getElem? (i := 10) rfl)) (hw _ (List.mem_of_getElem? (i := 11) rfl)) (by decide) (a := as3) (fun _ q => q) (cal_newS G (cs := [(i3 &&& 255), ((XT.ushr i3 (8 : Int32)) &&& 255), ((XT.ushr i3 (16 : Int32)) &&& 255), ((XT.ushr i3 (24 : Int32)) &&& 255)]) (by rw [zs3]; exact hOs3.1) (List.mem_cons_self ..) Xs3 Vs3 Cs3 (Af3.ext Es3) rfl (Nat.le_of_ble_eq_true rfl) (by intro c hc; simp only [List.mem_cons, List.not_mem_nil, or_false] at hc; rcases hc with rfl | rfl | rfl | rfl <;> exact m255 _) (by decide) (by decide) (kc := 4) (ks := 8) (by decide) (by decide) (Nat.le_of_ble_eq_true rfl)) rfl (argsL := [(.ref af)]) (rest := [(.ref as3)]) (lenOf pd_s1 rfl) rfl (Nat.le_of_ble_eq_true rfl) (by decide +kernel) (by decide) (by decide) (fun vs3i hs3i qs3i ns3i => ?_)
        obtain ⟨rfl, Fs3, Ks3⟩ := qs3i
        have Ts3 := ext_keep Es3 Ks3 (fun x hx => by cases List.mem_singleton.mp hx; rw [zs3]; exact Nat.le_refl _)
        refine Run.static hK (index := 22) (y := (⟨"com/example/keelson/keelson/module/SystemBundle", "named", "(Ljava/lang/String;)Z"⟩ : MethodName)) (Wt := 0) (kc := 4) (ks := 136) (hw _ (List.mem_of_getElem? (i := 35) rfl)) (hw _ (List.mem_of_getElem? (i := 36) rfl)) (hw _ (List.mem_of_getElem? (i := 37) rfl)) (hw _ (List.mem_of_getElem? (i := 38) rfl)) (by decide) (W' := []) (fun _ q => nomatch q) (Ctr.cal (c_named G as3 hs3i Fs3) (hw _ (List.mem_of_getElem? (i := 38) rfl)) (hw _ (List.mem_of_getElem? (i := 37) rfl)) (by decide) (by decide)) rfl (argsL := [(.ref as3)]) (rest := []) (lenOf pd_named rfl) rfl (Nat.le_of_ble_eq_true rfl) (by decide +kernel) (by decide) (by decide) (fun vn3 hn3 qn3 nn3 => ?_)
        obtain rfl := qn3
        rw [if_neg (ne_len (by show 4 ≠ 13; decide) (by show 4 ≠ 19; decide))]
        refine Run.ifz hK (cd := .ne) (o := 7) (by decide +kernel) (by decide) (pc' := 612) rfl (fun q => by replace q := (h_ne _ _).1 q; exact absurd rfl q) (fun _ => ?_)
        refine Run.pure hK (seg := [(608, .iconst 1, 1), (609, .goto 4, 3)]) (by decide +kernel) (pc' := 613) (L' := #[.val (.int i0), .val (.int i1), .val (.int i2), .val (.int i3), .val (.int m), .val (.int cc), .val (.ref af), .unset, .unset]) (S' := [(.int (1 : Int32))]) rfl ?_
        exact Run.retw hK (i := .ireturn) rfl (Or.inl ⟨rfl, Or.inr (Or.inl rfl), _, rfl⟩) (by decide +kernel) (by decide) (by decide) rfl
    · replace qm1 := (h_ne _ _).2 qm1
      refine Run.pure hK (seg := [(101, .iload_n 3, 1), (102, .iconst 3, 1), (103, .iand, 1), (104, .istore 6, 2)]) (by decide +kernel) (pc' := 106) (L' := #[.val (.int i0), .val (.int i1), .val (.int i2), .val (.int i3), .val (.int m), .val (.int cc), .val (.int (i3 &&& (3 : Int32))), .unset, .unset]) (S' := []) rfl ?_
      obtain ⟨kk, e_kk⟩ : ∃ z : Int32, z = (i3 &&& (3 : Int32)) := ⟨_, rfl⟩
      rw [← e_kk]
      clear e_kk
      refine Run.old (fun hO => ?_)
      have join1 : ∀ (hh : Heap) (ar : Addr) (k2 : ClassId) (cs : List Int32) (N : Int32) (W : List Addr), Arv Z hh ar k2 .char N (cs.map Value.int) (.int 0) → N = Int32.ofNat cs.length → cs.length ≤ 20 → cs.length ≠ 13 → cs.length ≠ 19 → (∀ c ∈ cs, ¬ c < 0 ∧ ¬ (255 : Int32) < c) → Run Z consts_1 false K (fun v h' => v = some (.int 1)) W hh 1 20 516 #[.val (.int i0), .val (.int i1), .val (.int i2), .val (.int i3), .val (.int m), .val (.int cc), .val (.int kk), .val (.ref ar), .unset] [] := by
        intro hh ar k2 cs N W A hN hl h1 h2 hin
        refine Run.old (fun hOs2 => ?_)
        refine Run.new hK (index := 17) (C := "java/lang/String") (n := 4) (hw _ (List.mem_of_getElem? (i := 6) rfl)) (hw _ (List.mem_of_getElem? (i := 7) rfl)) (hw _ (List.mem_of_getElem? (i := 8) rfl)) (by decide +kernel) (by decide) (by decide) (fun hs2 Es2 Xs2 Ds2 => ?_)
        obtain ⟨as2, zs2⟩ : ∃ z, z = hh.size := ⟨_, rfl⟩
        rw [← zs2]
        rw [← zs2] at Xs2 Ds2
        refine Run.pure hK (seg := [(519, .dup, 1), (520, .aload 7, 2)]) (by decide +kernel) (pc' := 522) (L' := #[.val (.int i0), .val (.int i1), .val (.int i2), .val (.int i3), .val (.int m), .val (.int cc), .val (.int kk), .val (.ref ar), .unset]) (S' := [(.ref ar), (.ref as2), (.ref as2)]) rfl ?_
        have Vs2 := Ds2 (Or.inr (hw _ (List.mem_of_getElem? (i := 34) rfl))) (ty := .array .byte) (by decide)
        have Cs2 := Ds2 (Or.inr (hw _ (List.mem_of_getElem? (i := 32) rfl))) (ty := .byte) (by decide)
        refine Run.special hK (index := 19) (y := (⟨"java/lang/String", "<init>", "([C)V"⟩ : MethodName)) (Wt := 1) (kc := 4) (ks := 20) rfl (hw _ (List.mem_of_getElem? (i := 9) rfl)) (hw _ (List.mem_of_getElem? (i := 10) rfl)) (hw _ (List.mem_of_getElem? (i := 11) rfl)) (by decide) (a := as2) (fun _ q => q) (cal_newS G (cs := cs) (by rw [zs2]; exact hOs2.1) (List.mem_cons_self ..) Xs2 Vs2 Cs2 (A.ext Es2) hN (by omega) hin (by decide) (by decide) (kc := 4) (ks := 20) (by decide) (by decide) hl) rfl (argsL := [(.ref ar)]) (rest := [(.ref as2)]) (lenOf pd_s1 rfl) rfl (Nat.le_of_ble_eq_true rfl) (by decide +kernel) (by decide) (by decide) (fun vs2i hs2i qs2i ns2i => ?_)
        obtain ⟨rfl, Fs2, Ks2⟩ := qs2i
        have Ts2 := ext_keep Es2 Ks2 (fun x hx => by cases List.mem_singleton.mp hx; rw [zs2]; exact Nat.le_refl _)
        refine Run.static hK (index := 22) (y := (⟨"com/example/keelson/keelson/module/SystemBundle", "named", "(Ljava/lang/String;)Z"⟩ : MethodName)) (Wt := 0) (kc := 4) (ks := 136) (hw _ (List.mem_of_getElem? (i := 35) rfl)) (hw _ (List.mem_of_getElem? (i := 36) rfl)) (hw _ (List.mem_of_getElem? (i := 37) rfl)) (hw _ (List.mem_of_getElem? (i := 38) rfl)) (by decide) (W' := []) (fun _ q => nomatch q) (Ctr.cal (c_named G as2 hs2i Fs2) (hw _ (List.mem_of_getElem? (i := 38) rfl)) (hw _ (List.mem_of_getElem? (i := 37) rfl)) (by decide) (by decide)) rfl (argsL := [(.ref as2)]) (rest := []) (lenOf pd_named rfl) rfl (Nat.le_of_ble_eq_true rfl) (by decide +kernel) (by decide) (by decide) (fun vn2 hn2 qn2 nn2 => ?_)
        obtain rfl := qn2
        rw [if_neg (ne_len h1 h2)]
        refine Run.ifz hK (cd := .ne) (o := 7) (by decide +kernel) (by decide) (pc' := 535) rfl (fun q => by replace q := (h_ne _ _).1 q; exact absurd rfl q) (fun _ => ?_)
        refine Run.pure hK (seg := [(531, .iconst 1, 1), (532, .goto 4, 3)]) (by decide +kernel) (pc' := 536) (L' := #[.val (.int i0), .val (.int i1), .val (.int i2), .val (.int i3), .val (.int m), .val (.int cc), .val (.int kk), .val (.ref ar), .unset]) (S' := [(.int (1 : Int32))]) rfl ?_
        exact Run.retw hK (i := .ireturn) rfl (Or.inl ⟨rfl, Or.inr (Or.inl rfl), _, rfl⟩) (by decide +kernel) (by decide) (by decide) rfl
      refine Run.pure hK (seg := [(106, .iload 6, 2)]) (by decide +kernel) (pc' := 108) (L' := #[.val (.int i0), .val (.int i1), .val (.int i2), .val (.int i3), .val (.int m), .val (.int cc), .val (.int kk), .unset, .unset]) (S' := [(.int kk)]) rfl ?_
      refine Run.ifz hK (cd := .ne) (o := 90) (by decide +kernel) (by decide) (pc' := 198) rfl (fun qk0 => ?_) (fun qk0 => ?_)
      · replace qk0 := (h_ne _ _).1 qk0
        refine Run.pure hK (seg := [(198, .iload 6, 2), (200, .iconst 1, 1)]) (by decide +kernel) (pc' := 201) (L' := #[.val (.int i0), .val (.int i1), .val (.int i2), .val (.int i3), .val (.int m), .val (.int cc), .val (.int kk), .unset, .unset]) (S' := [(.int (1 : Int32)), (.int kk)]) rfl ?_
        refine Run.icmp hK (cd := .ne) (o := 78) (by decide +kernel) (by decide) (pc' := 279) rfl (fun qk1 => ?_) (fun qk1 => ?_)
        · replace qk1 := (h_ne _ _).1 qk1
          refine Run.pure hK (seg := [(279, .iload 6, 2), (281, .iconst 2, 1)]) (by decide +kernel) (pc' := 282) (L' := #[.val (.int i0), .val (.int i1), .val (.int i2), .val (.int i3), .val (.int m), .val (.int cc), .val (.int kk), .unset, .unset]) (S' := [(.int (2 : Int32)), (.int kk)]) rfl ?_
          refine Run.icmp hK (cd := .ne) (o := 126) (by decide +kernel) (by decide) (pc' := 408) rfl (fun qk2 => ?_) (fun qk2 => ?_)
          · replace qk2 := (h_ne _ _).1 qk2
            refine Run.pure hK (seg := [(408, .bipush 18, 2)]) (by decide +kernel) (pc' := 410) (L' := #[.val (.int i0), .val (.int i1), .val (.int i2), .val (.int i3), .val (.int m), .val (.int cc), .val (.int kk), .unset, .unset]) (S' := [(.int (18 : Int32))]) rfl ?_
            refine Run.newarr hK (aty := .char) (hw _ (List.mem_of_getElem? (i := 5) rfl)) (by decide +kernel) (by decide) (cap := 18) (by decide) (by decide) (by decide) (by decide) (fun hq18 kq18 Eq18 Aq18 => ?_)
            obtain ⟨aq18, zq18⟩ : ∃ z, z = h.size := ⟨_, rfl⟩
            rw [← zq18]
            rw [← zq18] at Aq18
            have gq18 : Z.heap.size ≤ aq18 := by rw [zq18]; exact hO.1
            refine Run.pure hK (seg := [(412, .dup, 1), (413, .iconst 0, 1), (414, .bipush 99, 2)]) (by decide +kernel) (pc' := 416) (L' := #[.val (.int i0), .val (.int i1), .val (.int i2), .val (.int i3), .val (.int m), .val (.int cc), .val (.int kk), .unset, .unset]) (S' := [(.int (99 : Int32)), (.int (0 : Int32)), (.ref aq18), (.ref aq18)]) rfl ?_
            refine Run.cst hK Aq18 ⟨by decide, by decide⟩ gq18 (by decide +kernel) (fun hq180 Wq180 Bq180 => ?_)
            have Aq180 : Arv Z hq180 aq18 kq18 .char (18 : Int32) [(.int 99), (.int (0 : Int32)), (.int (0 : Int32)), (.int (0 : Int32)), (.int (0 : Int32)), (.int (0 : Int32)), (.int (0 : Int32)), (.int (0 : Int32)), (.int (0 : Int32)), (.int (0 : Int32)), (.int (0 : Int32)), (.int (0 : Int32)), (.int (0 : Int32)), (.int (0 : Int32)), (.int (0 : Int32)), (.int (0 : Int32)), (.int (0 : Int32)), (.int (0 : Int32))] (.int 0) := by have q := Bq180; exact q
            refine Run.pure hK (seg := [(417, .dup, 1), (418, .iconst 1, 1), (419, .bipush 111, 2)]) (by decide +kernel) (pc' := 421) (L' := #[.val (.int i0), .val (.int i1), .val (.int i2), .val (.int i3), .val (.int m), .val (.int cc), .val (.int kk), .unset, .unset]) (S' := [(.int (111 : Int32)), (.int (1 : Int32)), (.ref aq18), (.ref aq18)]) rfl ?_
            refine Run.cst hK Aq180 ⟨by decide, by decide⟩ gq18 (by decide +kernel) (fun hq181 Wq181 Bq181 => ?_)
            have Aq181 : Arv Z hq181 aq18 kq18 .char (18 : Int32) [(.int 99), (.int 111), (.int (0 : Int32)), (.int (0 : Int32)), (.int (0 : Int32)), (.int (0 : Int32)), (.int (0 : Int32)), (.int (0 : Int32)), (.int (0 : Int32)), (.int (0 : Int32)), (.int (0 : Int32)), (.int (0 : Int32)), (.int (0 : Int32)), (.int (0 : Int32)), (.int (0 : Int32)), (.int (0 : Int32)), (.int (0 : Int32)), (.int (0 : Int32))] (.int 0) := by have q := Bq181; exact q
            refine Run.pure hK (seg := [(422, .dup, 1), (423, .iconst 2, 1), (424, .bipush 109, 2)]) (by decide +kernel) (pc' := 426) (L' := #[.val (.int i0), .val (.int i1), .val (.int i2), .val (.int i3), .val (.int m), .val (.int cc), .val (.int kk), .unset, .unset]) (S' := [(.int (109 : Int32)), (.int (2 : Int32)), (.ref aq18), (.ref aq18)]) rfl ?_
            refine Run.cst hK Aq181 ⟨by decide, by decide⟩ gq18 (by decide +kernel) (fun hq182 Wq182 Bq182 => ?_)
            have Aq182 : Arv Z hq182 aq18 kq18 .char (18 : Int32) [(.int 99), (.int 111), (.int 109), (.int (0 : Int32)), (.int (0 : Int32)), (.int (0 : Int32)), (.int (0 : Int32)), (.int (0 : Int32)), (.int (0 : Int32)), (.int (0 : Int32)), (.int (0 : Int32)), (.int (0 : Int32)), (.int (0 : Int32)), (.int (0 : Int32)), (.int (0 : Int32)), (.int (0 : Int32)), (.int (0 : Int32)), (.int (0 : Int32))] (.int 0) := by have q := Bq182; exact q
            refine Run.pure hK (seg := [(427, .dup, 1), (428, .iconst 3, 1), (429, .bipush 46, 2)]) (by decide +kernel) (pc' := 431) (L' := #[.val (.int i0), .val (.int i1), .val (.int i2), .val (.int i3), .val (.int m), .val (.int cc), .val (.int kk), .unset, .unset]) (S' := [(.int (46 : Int32)), (.int (3 : Int32)), (.ref aq18), (.ref aq18)]) rfl ?_
            refine Run.cst hK Aq182 ⟨by decide, by decide⟩ gq18 (by decide +kernel) (fun hq183 Wq183 Bq183 => ?_)
            have Aq183 : Arv Z hq183 aq18 kq18 .char (18 : Int32) [(.int 99), (.int 111), (.int 109), (.int 46), (.int (0 : Int32)), (.int (0 : Int32)), (.int (0 : Int32)), (.int (0 : Int32)), (.int (0 : Int32)), (.int (0 : Int32)), (.int (0 : Int32)), (.int (0 : Int32)), (.int (0 : Int32)), (.int (0 : Int32)), (.int (0 : Int32)), (.int (0 : Int32)), (.int (0 : Int32)), (.int (0 : Int32))] (.int 0) := by have q := Bq183; exact q
            refine Run.pure hK (seg := [(432, .dup, 1), (433, .iconst 4, 1), (434, .bipush 101, 2)]) (by decide +kernel) (pc' := 436) (L' := #[.val (.int i0), .val (.int i1), .val (.int i2), .val (.int i3), .val (.int m), .val (.int cc), .val (.int kk), .unset, .unset]) (S' := [(.int (101 : Int32)), (.int (4 : Int32)), (.ref aq18), (.ref aq18)]) rfl ?_
            refine Run.cst hK Aq183 ⟨by decide, by decide⟩ gq18 (by decide +kernel) (fun hq184 Wq184 Bq184 => ?_)
            have Aq184 : Arv Z hq184 aq18 kq18 .char (18 : Int32) [(.int 99), (.int 111), (.int 109), (.int 46), (.int 101), (.int (0 : Int32)), (.int (0 : Int32)), (.int (0 : Int32)), (.int (0 : Int32)), (.int (0 : Int32)), (.int (0 : Int32)), (.int (0 : Int32)), (.int (0 : Int32)), (.int (0 : Int32)), (.int (0 : Int32)), (.int (0 : Int32)), (.int (0 : Int32)), (.int (0 : Int32))] (.int 0) := by have q := Bq184; exact q
            refine Run.pure hK (seg := [(437, .dup, 1), (438, .iconst 5, 1), (439, .bipush 120, 2)]) (by decide +kernel) (pc' := 441) (L' := #[.val (.int i0), .val (.int i1), .val (.int i2), .val (.int i3), .val (.int m), .val (.int cc), .val (.int kk), .unset, .unset]) (S' := [(.int (120 : Int32)), (.int (5 : Int32)), (.ref aq18), (.ref aq18)]) rfl ?_
            refine Run.cst hK Aq184 ⟨by decide, by decide⟩ gq18 (by decide +kernel) (fun hq185 Wq185 Bq185 => ?_)
            have Aq185 : Arv Z hq185 aq18 kq18 .char (18 : Int32) [(.int 99), (.int 111), (.int 109), (.int 46), (.int 101), (.int 120), (.int (0 : Int32)), (.int (0 : Int32)), (.int (0 : Int32)), (.int (0 : Int32)), (.int (0 : Int32)), (.int (0 : Int32)), (.int (0 : Int32)), (.int (0 : Int32)), (.int (0 : Int32)), (.int (0 : Int32)), (.int (0 : Int32)), (.int (0 : Int32))] (.int 0) := by have q := Bq185; exact q
            refine Run.pure hK (seg := [(442, .dup, 1), (443, .bipush 6, 2), (445, .bipush 97, 2)]) (by decide +kernel) (pc' := 447) (L' := #[.val (.int i0), .val (.int i1), .val (.int i2), .val (.int i3), .val (.int m), .val (.int cc), .val (.int kk), .unset, .unset]) (S' := [(.int (97 : Int32)), (.int (6 : Int32)), (.ref aq18), (.ref aq18)]) rfl ?_
            refine Run.cst hK Aq185 ⟨by decide, by decide⟩ gq18 (by decide +kernel) (fun hq186 Wq186 Bq186 => ?_)
            have Aq186 : Arv Z hq186 aq18 kq18 .char (18 : Int32) [(.int 99), (.int 111), (.int 109), (.int 46), (.int 101), (.int 120), (.int 97), (.int (0 : Int32)), (.int (0 : Int32)), (.int (0 : Int32)), (.int (0 : Int32)), (.int (0 : Int32)), (.int (0 : Int32)), (.int (0 : Int32)), (.int (0 : Int32)), (.int (0 : Int32)), (.int (0 : Int32)), (.int (0 : Int32))] (.int 0) := by have q := Bq186; exact q
            refine Run.pure hK (seg := [(448, .dup, 1), (449, .bipush 7, 2), (451, .bipush 109, 2)]) (by decide +kernel) (pc' := 453) (L' := #[.val (.int i0), .val (.int i1), .val (.int i2), .val (.int i3), .val (.int m), .val (.int cc), .val (.int kk), .unset, .unset]) (S' := [(.int (109 : Int32)), (.int (7 : Int32)), (.ref aq18), (.ref aq18)]) rfl ?_
            refine Run.cst hK Aq186 ⟨by decide, by decide⟩ gq18 (by decide +kernel) (fun hq187 Wq187 Bq187 => ?_)
            have Aq187 : Arv Z hq187 aq18 kq18 .char (18 : Int32) [(.int 99), (.int 111), (.int 109), (.int 46), (.int 101), (.int 120), (.int 97), (.int 109), (.int (0 : Int32)), (.int (0 : Int32)), (.int (0 : Int32)), (.int (0 : Int32)), (.int (0 : Int32)), (.int (0 : Int32)), (.int (0 : Int32)), (.int (0 : Int32)), (.int (0 : Int32)), (.int (0 : Int32))] (.int 0) := by have q := Bq187; exact q
            refine Run.pure hK (seg := [(454, .dup, 1), (455, .bipush 8, 2), (457, .bipush 112, 2)]) (by decide +kernel) (pc' := 459) (L' := #[.val (.int i0), .val (.int i1), .val (.int i2), .val (.int i3), .val (.int m), .val (.int cc), .val (.int kk), .unset, .unset]) (S' := [(.int (112 : Int32)), (.int (8 : Int32)), (.ref aq18), (.ref aq18)]) rfl ?_
            refine Run.cst hK Aq187 ⟨by decide, by decide⟩ gq18 (by decide +kernel) (fun hq188 Wq188 Bq188 => ?_)
            have Aq188 : Arv Z hq188 aq18 kq18 .char (18 : Int32) [(.int 99), (.int 111), (.int 109), (.int 46), (.int 101), (.int 120), (.int 97), (.int 109), (.int 112), (.int (0 : Int32)), (.int (0 : Int32)), (.int (0 : Int32)), (.int (0 : Int32)), (.int (0 : Int32)), (.int (0 : Int32)), (.int (0 : Int32)), (.int (0 : Int32)), (.int (0 : Int32))] (.int 0) := by have q := Bq188; exact q
            refine Run.pure hK (seg := [(460, .dup, 1), (461, .bipush 9, 2), (463, .bipush 108, 2)]) (by decide +kernel) (pc' := 465) (L' := #[.val (.int i0), .val (.int i1), .val (.int i2), .val (.int i3), .val (.int m), .val (.int cc), .val (.int kk), .unset, .unset]) (S' := [(.int (108 : Int32)), (.int (9 : Int32)), (.ref aq18), (.ref aq18)]) rfl ?_
            refine Run.cst hK Aq188 ⟨by decide, by decide⟩ gq18 (by decide +kernel) (fun hq189 Wq189 Bq189 => ?_)
            have Aq189 : Arv Z hq189 aq18 kq18 .char (18 : Int32) [(.int 99), (.int 111), (.int 109), (.int 46), (.int 101), (.int 120), (.int 97), (.int 109), (.int 112), (.int 108), (.int (0 : Int32)), (.int (0 : Int32)), (.int (0 : Int32)), (.int (0 : Int32)), (.int (0 : Int32)), (.int (0 : Int32)), (.int (0 : Int32)), (.int (0 : Int32))] (.int 0) := by have q := Bq189; exact q
            refine Run.pure hK (seg := [(466, .dup, 1), (467, .bipush 10, 2), (469, .bipush 101, 2)]) (by decide +kernel) (pc' := 471) (L' := #[.val (.int i0), .val (.int i1), .val (.int i2), .val (.int i3), .val (.int m), .val (.int cc), .val (.int kk), .unset, .unset]) (S' := [(.int (101 : Int32)), (.int (10 : Int32)), (.ref aq18), (.ref aq18)]) rfl ?_
            refine Run.cst hK Aq189 ⟨by decide, by decide⟩ gq18 (by decide +kernel) (fun hq1810 Wq1810 Bq1810 => ?_)
            have Aq1810 : Arv Z hq1810 aq18 kq18 .char (18 : Int32) [(.int 99), (.int 111), (.int 109), (.int 46), (.int 101), (.int 120), (.int 97), (.int 109), (.int 112), (.int 108), (.int 101), (.int (0 : Int32)), (.int (0 : Int32)), (.int (0 : Int32)), (.int (0 : Int32)), (.int (0 : Int32)), (.int (0 : Int32)), (.int (0 : Int32))] (.int 0) := by have q := Bq1810; exact q
            refine Run.pure hK (seg := [(472, .dup, 1), (473, .bipush 11, 2), (475, .bipush 46, 2)]) (by decide +kernel) (pc' := 477) (L' := #[.val (.int i0), .val (.int i1), .val (.int i2), .val (.int i3), .val (.int m), .val (.int cc), .val (.int kk), .unset, .unset]) (S' := [(.int (46 : Int32)), (.int (11 : Int32)), (.ref aq18), (.ref aq18)]) rfl ?_
            refine Run.cst hK Aq1810 ⟨by decide, by decide⟩ gq18 (by decide +kernel) (fun hq1811 Wq1811 Bq1811 => ?_)
            have Aq1811 : Arv Z hq1811 aq18 kq18 .char (18 : Int32) [(.int 99), (.int 111), (.int 109), (.int 46), (.int 101), (.int 120), (.int 97), (.int 109), (.int 112), (.int 108), (.int 101), (.int 46), (.int (0 : Int32)), (.int (0 : Int32)), (.int (0 : Int32)), (.int (0 : Int32)), (.int (0 : Int32)), (.int (0 : Int32))] (.int 0) := by have q := Bq1811; exact q
            refine Run.pure hK (seg := [(478, .dup, 1), (479, .bipush 12, 2), (481, .bipush 107, 2)]) (by decide +kernel) (pc' := 483) (L' := #[.val (.int i0), .val (.int i1), .val (.int i2), .val (.int i3), .val (.int m), .val (.int cc), .val (.int kk), .unset, .unset]) (S' := [(.int (107 : Int32)), (.int (12 : Int32)), (.ref aq18), (.ref aq18)]) rfl ?_
            refine Run.cst hK Aq1811 ⟨by decide, by decide⟩ gq18 (by decide +kernel) (fun hq1812 Wq1812 Bq1812 => ?_)
            have Aq1812 : Arv Z hq1812 aq18 kq18 .char (18 : Int32) [(.int 99), (.int 111), (.int 109), (.int 46), (.int 101), (.int 120), (.int 97), (.int 109), (.int 112), (.int 108), (.int 101), (.int 46), (.int 107), (.int (0 : Int32)), (.int (0 : Int32)), (.int (0 : Int32)), (.int (0 : Int32)), (.int (0 : Int32))] (.int 0) := by have q := Bq1812; exact q
            refine Run.pure hK (seg := [(484, .dup, 1), (485, .bipush 13, 2), (487, .bipush 101, 2)]) (by decide +kernel) (pc' := 489) (L' := #[.val (.int i0), .val (.int i1), .val (.int i2), .val (.int i3), .val (.int m), .val (.int cc), .val (.int kk), .unset, .unset]) (S' := [(.int (101 : Int32)), (.int (13 : Int32)), (.ref aq18), (.ref aq18)]) rfl ?_
            refine Run.cst hK Aq1812 ⟨by decide, by decide⟩ gq18 (by decide +kernel) (fun hq1813 Wq1813 Bq1813 => ?_)
            have Aq1813 : Arv Z hq1813 aq18 kq18 .char (18 : Int32) [(.int 99), (.int 111), (.int 109), (.int 46), (.int 101), (.int 120), (.int 97), (.int 109), (.int 112), (.int 108), (.int 101), (.int 46), (.int 107), (.int 101), (.int (0 : Int32)), (.int (0 : Int32)), (.int (0 : Int32)), (.int (0 : Int32))] (.int 0) := by have q := Bq1813; exact q
            refine Run.pure hK (seg := [(490, .dup, 1), (491, .bipush 14, 2), (493, .bipush 101, 2)]) (by decide +kernel) (pc' := 495) (L' := #[.val (.int i0), .val (.int i1), .val (.int i2), .val (.int i3), .val (.int m), .val (.int cc), .val (.int kk), .unset, .unset]) (S' := [(.int (101 : Int32)), (.int (14 : Int32)), (.ref aq18), (.ref aq18)]) rfl ?_
            refine Run.cst hK Aq1813 ⟨by decide, by decide⟩ gq18 (by decide +kernel) (fun hq1814 Wq1814 Bq1814 => ?_)
            have Aq1814 : Arv Z hq1814 aq18 kq18 .char (18 : Int32) [(.int 99), (.int 111), (.int 109), (.int 46), (.int 101), (.int 120), (.int 97), (.int 109), (.int 112), (.int 108), (.int 101), (.int 46), (.int 107), (.int 101), (.int 101), (.int (0 : Int32)), (.int (0 : Int32)), (.int (0 : Int32))] (.int 0) := by have q := Bq1814; exact q
            refine Run.pure hK (seg := [(496, .dup, 1), (497, .bipush 15, 2), (499, .bipush 108, 2)]) (by decide +kernel) (pc' := 501) (L' := #[.val (.int i0), .val (.int i1), .val (.int i2), .val (.int i3), .val (.int m), .val (.int cc), .val (.int kk), .unset, .unset]) (S' := [(.int (108 : Int32)), (.int (15 : Int32)), (.ref aq18), (.ref aq18)]) rfl ?_
            refine Run.cst hK Aq1814 ⟨by decide, by decide⟩ gq18 (by decide +kernel) (fun hq1815 Wq1815 Bq1815 => ?_)
            have Aq1815 : Arv Z hq1815 aq18 kq18 .char (18 : Int32) [(.int 99), (.int 111), (.int 109), (.int 46), (.int 101), (.int 120), (.int 97), (.int 109), (.int 112), (.int 108), (.int 101), (.int 46), (.int 107), (.int 101), (.int 101), (.int 108), (.int (0 : Int32)), (.int (0 : Int32))] (.int 0) := by have q := Bq1815; exact q
            refine Run.pure hK (seg := [(502, .dup, 1), (503, .bipush 16, 2), (505, .bipush 115, 2)]) (by decide +kernel) (pc' := 507) (L' := #[.val (.int i0), .val (.int i1), .val (.int i2), .val (.int i3), .val (.int m), .val (.int cc), .val (.int kk), .unset, .unset]) (S' := [(.int (115 : Int32)), (.int (16 : Int32)), (.ref aq18), (.ref aq18)]) rfl ?_
            refine Run.cst hK Aq1815 ⟨by decide, by decide⟩ gq18 (by decide +kernel) (fun hq1816 Wq1816 Bq1816 => ?_)
            have Aq1816 : Arv Z hq1816 aq18 kq18 .char (18 : Int32) [(.int 99), (.int 111), (.int 109), (.int 46), (.int 101), (.int 120), (.int 97), (.int 109), (.int 112), (.int 108), (.int 101), (.int 46), (.int 107), (.int 101), (.int 101), (.int 108), (.int 115), (.int (0 : Int32))] (.int 0) := by have q := Bq1816; exact q
            refine Run.pure hK (seg := [(508, .dup, 1), (509, .bipush 17, 2), (511, .bipush 111, 2)]) (by decide +kernel) (pc' := 513) (L' := #[.val (.int i0), .val (.int i1), .val (.int i2), .val (.int i3), .val (.int m), .val (.int cc), .val (.int kk), .unset, .unset]) (S' := [(.int (111 : Int32)), (.int (17 : Int32)), (.ref aq18), (.ref aq18)]) rfl ?_
            refine Run.cst hK Aq1816 ⟨by decide, by decide⟩ gq18 (by decide +kernel) (fun hq1817 Wq1817 Bq1817 => ?_)
            have Aq1817 : Arv Z hq1817 aq18 kq18 .char (18 : Int32) [(.int 99), (.int 111), (.int 109), (.int 46), (.int 101), (.int 120), (.int 97), (.int 109), (.int 112), (.int 108), (.int 101), (.int 46), (.int 107), (.int 101), (.int 101), (.int 108), (.int 115), (.int 111)] (.int 0) := by have q := Bq1817; exact q
            refine Run.pure hK (seg := [(514, .astore 7, 2)]) (by decide +kernel) (pc' := 516) (L' := #[.val (.int i0), .val (.int i1), .val (.int i2), .val (.int i3), .val (.int m), .val (.int cc), .val (.int kk), .val (.ref aq18), .unset]) (S' := []) rfl ?_
            exact Run.mono (join1 _ _ _ [99, 111, 109, 46, 101, 120, 97, 109, 112, 108, 101, 46, 107, 101, 101, 108, 115, 111] _ _ Aq1817 rfl (Nat.le_of_ble_eq_true rfl) (by show 18 ≠ 13; decide) (by show 18 ≠ 19; decide) (by intro c hc; simp only [List.mem_cons, List.not_mem_nil, or_false] at hc; rcases hc with rfl | rfl | rfl | rfl | rfl | rfl | rfl | rfl | rfl | rfl | rfl | rfl | rfl | rfl | rfl | rfl | rfl | rfl <;> first | assumption | decide)) (by decide) (by decide)
          · replace qk2 := (h_ne _ _).2 qk2
            refine Run.pure hK (seg := [(285, .bipush 20, 2)]) (by decide +kernel) (pc' := 287) (L' := #[.val (.int i0), .val (.int i1), .val (.int i2), .val (.int i3), .val (.int m), .val (.int cc), .val (.int kk), .unset, .unset]) (S' := [(.int (20 : Int32))]) rfl ?_
            refine Run.newarr hK (aty := .char) (hw _ (List.mem_of_getElem? (i := 5) rfl)) (by decide +kernel) (by decide) (cap := 20) (by decide) (by decide) (by decide) (by decide) (fun hq19 kq19 Eq19 Aq19 => ?_)
            obtain ⟨aq19, zq19⟩ : ∃ z, z = h.size := ⟨_, rfl⟩
            rw [← zq19]
            rw [← zq19] at Aq19
            have gq19 : Z.heap.size ≤ aq19 := by rw [zq19]; exact hO.1
            refine Run.pure hK (seg := [(289, .dup, 1), (290, .iconst 0, 1), (291, .bipush 99, 2)]) (by decide +kernel) (pc' := 293) (L' := #[.val (.int i0), .val (.int i1), .val (.int i2), .val (.int i3), .val (.int m), .val (.int cc), .val (.int kk), .unset, .unset]) (S' := [(.int (99 : Int32)), (.int (0 : Int32)), (.ref aq19), (.ref aq19)]) rfl ?_
            refine Run.cst hK Aq19 ⟨by decide, by decide⟩ gq19 (by decide +kernel) (fun hq190 Wq190 Bq190 => ?_)
            have Aq190 : Arv Z hq190 aq19 kq19 .char (20 : Int32) [(.int 99), (.int (0 : Int32)), (.int (0 : Int32)), (.int (0 : Int32)), (.int (0 : Int32)), (.int (0 : Int32)), (.int (0 : Int32)), (.int (0 : Int32)), (.int (0 : Int32)), (.int (0 : Int32)), (.int (0 : Int32)), (.int (0 : Int32)), (.int (0 : Int32)), (.int (0 : Int32)), (.int (0 : Int32)), (.int (0 : Int32)), (.int (0 : Int32)), (.int (0 : Int32)), (.int (0 : Int32)), (.int (0 : Int32))] (.int 0) := by have q := Bq190; exact q
            refine Run.pure hK (seg := [(294, .dup, 1), (295, .iconst 1, 1), (296, .bipush 111, 2)]) (by decide +kernel) (pc' := 298) (L' := #[.val (.int i0), .val (.int i1), .val (.int i2), .val (.int i3), .val (.int m), .val (.int cc), .val (.int kk), .unset, .unset]) (S' := [(.int (111 : Int32)), (.int (1 : Int32)), (.ref aq19), (.ref aq19)]) rfl ?_
            refine Run.cst hK Aq190 ⟨by decide, by decide⟩ gq19 (by decide +kernel) (fun hq191 Wq191 Bq191 => ?_)
            have Aq191 : Arv Z hq191 aq19 kq19 .char (20 : Int32) [(.int 99), (.int 111), (.int (0 : Int32)), (.int (0 : Int32)), (.int (0 : Int32)), (.int (0 : Int32)), (.int (0 : Int32)), (.int (0 : Int32)), (.int (0 : Int32)), (.int (0 : Int32)), (.int (0 : Int32)), (.int (0 : Int32)), (.int (0 : Int32)), (.int (0 : Int32)), (.int (0 : Int32)), (.int (0 : Int32)), (.int (0 : Int32)), (.int (0 : Int32)), (.int (0 : Int32)), (.int (0 : Int32))] (.int 0) := by have q := Bq191; exact q
            refine Run.pure hK (seg := [(299, .dup, 1), (300, .iconst 2, 1), (301, .bipush 109, 2)]) (by decide +kernel) (pc' := 303) (L' := #[.val (.int i0), .val (.int i1), .val (.int i2), .val (.int i3), .val (.int m), .val (.int cc), .val (.int kk), .unset, .unset]) (S' := [(.int (109 : Int32)), (.int (2 : Int32)), (.ref aq19), (.ref aq19)]) rfl ?_
            refine Run.cst hK Aq191 ⟨by decide, by decide⟩ gq19 (by decide +kernel) (fun hq192 Wq192 Bq192 => ?_)
            have Aq192 : Arv Z hq192 aq19 kq19 .char (20 : Int32) [(.int 99), (.int 111), (.int 109), (.int (0 : Int32)), (.int (0 : Int32)), (.int (0 : Int32)), (.int (0 : Int32)), (.int (0 : Int32)), (.int (0 : Int32)), (.int (0 : Int32)), (.int (0 : Int32)), (.int (0 : Int32)), (.int (0 : Int32)), (.int (0 : Int32)), (.int (0 : Int32)), (.int (0 : Int32)), (.int (0 : Int32)), (.int (0 : Int32)), (.int (0 : Int32)), (.int (0 : Int32))] (.int 0) := by have q := Bq192; exact q
            refine Run.pure hK (seg := [(304, .dup, 1), (305, .iconst 3, 1), (306, .bipush 46, 2)]) (by decide +kernel) (pc' := 308) (L' := #[.val (.int i0), .val (.int i1), .val (.int i2), .val (.int i3), .val (.int m), .val (.int cc), .val (.int kk), .unset, .unset]) (S' := [(.int (46 : Int32)), (.int (3 : Int32)), (.ref aq19), (.ref aq19)]) rfl ?_
            refine Run.cst hK Aq192 ⟨by decide, by decide⟩ gq19 (by decide +kernel) (fun hq193 Wq193 Bq193 => ?_)
            have Aq193 : Arv Z hq193 aq19 kq19 .char (20 : Int32) [(.int 99), (.int 111), (.int 109), (.int 46), (.int (0 : Int32)), (.int (0 : Int32)), (.int (0 : Int32)), (.int (0 : Int32)), (.int (0 : Int32)), (.int (0 : Int32)), (.int (0 : Int32)), (.int (0 : Int32)), (.int (0 : Int32)), (.int (0 : Int32)), (.int (0 : Int32)), (.int (0 : Int32)), (.int (0 : Int32)), (.int (0 : Int32)), (.int (0 : Int32)), (.int (0 : Int32))] (.int 0) := by have q := Bq193; exact q
            refine Run.pure hK (seg := [(309, .dup, 1), (310, .iconst 4, 1), (311, .bipush 101, 2)]) (by decide +kernel) (pc' := 313) (L' := #[.val (.int i0), .val (.int i1), .val (.int i2), .val (.int i3), .val (.int m), .val (.int cc), .val (.int kk), .unset, .unset]) (S' := [(.int (101 : Int32)), (.int (4 : Int32)), (.ref aq19), (.ref aq19)]) rfl ?_
            refine Run.cst hK Aq193 ⟨by decide, by decide⟩ gq19 (by decide +kernel) (fun hq194 Wq194 Bq194 => ?_)
            have Aq194 : Arv Z hq194 aq19 kq19 .char (20 : Int32) [(.int 99), (.int 111), (.int 109), (.int 46), (.int 101), (.int (0 : Int32)), (.int (0 : Int32)), (.int (0 : Int32)), (.int (0 : Int32)), (.int (0 : Int32)), (.int (0 : Int32)), (.int (0 : Int32)), (.int (0 : Int32)), (.int (0 : Int32)), (.int (0 : Int32)), (.int (0 : Int32)), (.int (0 : Int32)), (.int (0 : Int32)), (.int (0 : Int32)), (.int (0 : Int32))] (.int 0) := by have q := Bq194; exact q
            refine Run.pure hK (seg := [(314, .dup, 1), (315, .iconst 5, 1), (316, .bipush 120, 2)]) (by decide +kernel) (pc' := 318) (L' := #[.val (.int i0), .val (.int i1), .val (.int i2), .val (.int i3), .val (.int m), .val (.int cc), .val (.int kk), .unset, .unset]) (S' := [(.int (120 : Int32)), (.int (5 : Int32)), (.ref aq19), (.ref aq19)]) rfl ?_
            refine Run.cst hK Aq194 ⟨by decide, by decide⟩ gq19 (by decide +kernel) (fun hq195 Wq195 Bq195 => ?_)
            have Aq195 : Arv Z hq195 aq19 kq19 .char (20 : Int32) [(.int 99), (.int 111), (.int 109), (.int 46), (.int 101), (.int 120), (.int (0 : Int32)), (.int (0 : Int32)), (.int (0 : Int32)), (.int (0 : Int32)), (.int (0 : Int32)), (.int (0 : Int32)), (.int (0 : Int32)), (.int (0 : Int32)), (.int (0 : Int32)), (.int (0 : Int32)), (.int (0 : Int32)), (.int (0 : Int32)), (.int (0 : Int32)), (.int (0 : Int32))] (.int 0) := by have q := Bq195; exact q
            refine Run.pure hK (seg := [(319, .dup, 1), (320, .bipush 6, 2), (322, .bipush 97, 2)]) (by decide +kernel) (pc' := 324) (L' := #[.val (.int i0), .val (.int i1), .val (.int i2), .val (.int i3), .val (.int m), .val (.int cc), .val (.int kk), .unset, .unset]) (S' := [(.int (97 : Int32)), (.int (6 : Int32)), (.ref aq19), (.ref aq19)]) rfl ?_
            refine Run.cst hK Aq195 ⟨by decide, by decide⟩ gq19 (by decide +kernel) (fun hq196 Wq196 Bq196 => ?_)
            have Aq196 : Arv Z hq196 aq19 kq19 .char (20 : Int32) [(.int 99), (.int 111), (.int 109), (.int 46), (.int 101), (.int 120), (.int 97), (.int (0 : Int32)), (.int (0 : Int32)), (.int (0 : Int32)), (.int (0 : Int32)), (.int (0 : Int32)), (.int (0 : Int32)), (.int (0 : Int32)), (.int (0 : Int32)), (.int (0 : Int32)), (.int (0 : Int32)), (.int (0 : Int32)), (.int (0 : Int32)), (.int (0 : Int32))] (.int 0) := by have q := Bq196; exact q
            refine Run.pure hK (seg := [(325, .dup, 1), (326, .bipush 7, 2), (328, .bipush 109, 2)]) (by decide +kernel) (pc' := 330) (L' := #[.val (.int i0), .val (.int i1), .val (.int i2), .val (.int i3), .val (.int m), .val (.int cc), .val (.int kk), .unset, .unset]) (S' := [(.int (109 : Int32)), (.int (7 : Int32)), (.ref aq19), (.ref aq19)]) rfl ?_
            refine Run.cst hK Aq196 ⟨by decide, by decide⟩ gq19 (by decide +kernel) (fun hq197 Wq197 Bq197 => ?_)
            have Aq197 : Arv Z hq197 aq19 kq19 .char (20 : Int32) [(.int 99), (.int 111), (.int 109), (.int 46), (.int 101), (.int 120), (.int 97), (.int 109), (.int (0 : Int32)), (.int (0 : Int32)), (.int (0 : Int32)), (.int (0 : Int32)), (.int (0 : Int32)), (.int (0 : Int32)), (.int (0 : Int32)), (.int (0 : Int32)), (.int (0 : Int32)), (.int (0 : Int32)), (.int (0 : Int32)), (.int (0 : Int32))] (.int 0) := by have q := Bq197; exact q
            refine Run.pure hK (seg := [(331, .dup, 1), (332, .bipush 8, 2), (334, .bipush 112, 2)]) (by decide +kernel) (pc' := 336) (L' := #[.val (.int i0), .val (.int i1), .val (.int i2), .val (.int i3), .val (.int m), .val (.int cc), .val (.int kk), .unset, .unset]) (S' := [(.int (112 : Int32)), (.int (8 : Int32)), (.ref aq19), (.ref aq19)]) rfl ?_
            refine Run.cst hK Aq197 ⟨by decide, by decide⟩ gq19 (by decide +kernel) (fun hq198 Wq198 Bq198 => ?_)
            have Aq198 : Arv Z hq198 aq19 kq19 .char (20 : Int32) [(.int 99), (.int 111), (.int 109), (.int 46), (.int 101), (.int 120), (.int 97), (.int 109), (.int 112), (.int (0 : Int32)), (.int (0 : Int32)), (.int (0 : Int32)), (.int (0 : Int32)), (.int (0 : Int32)), (.int (0 : Int32)), (.int (0 : Int32)), (.int (0 : Int32)), (.int (0 : Int32)), (.int (0 : Int32)), (.int (0 : Int32))] (.int 0) := by have q := Bq198; exact q
            refine Run.pure hK (seg := [(337, .dup, 1), (338, .bipush 9, 2), (340, .bipush 108, 2)]) (by decide +kernel) (pc' := 342) (L' := #[.val (.int i0), .val (.int i1), .val (.int i2), .val (.int i3), .val (.int m), .val (.int cc), .val (.int kk), .unset, .unset]) (S' := [(.int (108 : Int32)), (.int (9 : Int32)), (.ref aq19), (.ref aq19)]) rfl ?_
            refine Run.cst hK Aq198 ⟨by decide, by decide⟩ gq19 (by decide +kernel) (fun hq199 Wq199 Bq199 => ?_)
            have Aq199 : Arv Z hq199 aq19 kq19 .char (20 : Int32) [(.int 99), (.int 111), (.int 109), (.int 46), (.int 101), (.int 120), (.int 97), (.int 109), (.int 112), (.int 108), (.int (0 : Int32)), (.int (0 : Int32)), (.int (0 : Int32)), (.int (0 : Int32)), (.int (0 : Int32)), (.int (0 : Int32)), (.int (0 : Int32)), (.int (0 : Int32)), (.int (0 : Int32)), (.int (0 : Int32))] (.int 0) := by have q := Bq199; exact q
            refine Run.pure hK (seg := [(343, .dup, 1), (344, .bipush 10, 2), (346, .bipush 101, 2)]) (by decide +kernel) (pc' := 348) (L' := #[.val (.int i0), .val (.int i1), .val (.int i2), .val (.int i3), .val (.int m), .val (.int cc), .val (.int kk), .unset, .unset]) (S' := [(.int (101 : Int32)), (.int (10 : Int32)), (.ref aq19), (.ref aq19)]) rfl ?_
            refine Run.cst hK Aq199 ⟨by decide, by decide⟩ gq19 (by decide +kernel) (fun hq1910 Wq1910 Bq1910 => ?_)
            have Aq1910 : Arv Z hq1910 aq19 kq19 .char (20 : Int32) [(.int 99), (.int 111), (.int 109), (.int 46), (.int 101), (.int 120), (.int 97), (.int 109), (.int 112), (.int 108), (.int 101), (.int (0 : Int32)), (.int (0 : Int32)), (.int (0 : Int32)), (.int (0 : Int32)), (.int (0 : Int32)), (.int (0 : Int32)), (.int (0 : Int32)), (.int (0 : Int32)), (.int (0 : Int32))] (.int 0) := by have q := Bq1910; exact q
            refine Run.pure hK (seg := [(349, .dup, 1), (350, .bipush 11, 2), (352, .bipush 46, 2)]) (by decide +kernel) (pc' := 354) (L' := #[.val (.int i0), .val (.int i1), .val (.int i2), .val (.int i3), .val (.int m), .val (.int cc), .val (.int kk), .unset, .unset]) (S' := [(.int (46 : Int32)), (.int (11 : Int32)), (.ref aq19), (.ref aq19)]) rfl ?_
            refine Run.cst hK Aq1910 ⟨by decide, by decide⟩ gq19 (by decide +kernel) (fun hq1911 Wq1911 Bq1911 => ?_)
            have Aq1911 : Arv Z hq1911 aq19 kq19 .char (20 : Int32) [(.int 99), (.int 111), (.int 109), (.int 46), (.int 101), (.int 120), (.int 97), (.int 109), (.int 112), (.int 108), (.int 101), (.int 46), (.int (0 : Int32)), (.int (0 : Int32)), (.int (0 : Int32)), (.int (0 : Int32)), (.int (0 : Int32)), (.int (0 : Int32)), (.int (0 : Int32)), (.int (0 : Int32))] (.int 0) := by have q := Bq1911; exact q
            refine Run.pure hK (seg := [(355, .dup, 1), (356, .bipush 12, 2), (358, .bipush 107, 2)]) (by decide +kernel) (pc' := 360) (L' := #[.val (.int i0), .val (.int i1), .val (.int i2), .val (.int i3), .val (.int m), .val (.int cc), .val (.int kk), .unset, .unset]) (S' := [(.int (107 : Int32)), (.int (12 : Int32)), (.ref aq19), (.ref aq19)]) rfl ?_
            refine Run.cst hK Aq1911 ⟨by decide, by decide⟩ gq19 (by decide +kernel) (fun hq1912 Wq1912 Bq1912 => ?_)
            have Aq1912 : Arv Z hq1912 aq19 kq19 .char (20 : Int32) [(.int 99), (.int 111), (.int 109), (.int 46), (.int 101), (.int 120), (.int 97), (.int 109), (.int 112), (.int 108), (.int 101), (.int 46), (.int 107), (.int (0 : Int32)), (.int (0 : Int32)), (.int (0 : Int32)), (.int (0 : Int32)), (.int (0 : Int32)), (.int (0 : Int32)), (.int (0 : Int32))] (.int 0) := by have q := Bq1912; exact q
            refine Run.pure hK (seg := [(361, .dup, 1), (362, .bipush 13, 2), (364, .bipush 101, 2)]) (by decide +kernel) (pc' := 366) (L' := #[.val (.int i0), .val (.int i1), .val (.int i2), .val (.int i3), .val (.int m), .val (.int cc), .val (.int kk), .unset, .unset]) (S' := [(.int (101 : Int32)), (.int (13 : Int32)), (.ref aq19), (.ref aq19)]) rfl ?_
            refine Run.cst hK Aq1912 ⟨by decide, by decide⟩ gq19 (by decide +kernel) (fun hq1913 Wq1913 Bq1913 => ?_)
            have Aq1913 : Arv Z hq1913 aq19 kq19 .char (20 : Int32) [(.int 99), (.int 111), (.int 109), (.int 46), (.int 101), (.int 120), (.int 97), (.int 109), (.int 112), (.int 108), (.int 101), (.int 46), (.int 107), (.int 101), (.int (0 : Int32)), (.int (0 : Int32)), (.int (0 : Int32)), (.int (0 : Int32)), (.int (0 : Int32)), (.int (0 : Int32))] (.int 0) := by have q := Bq1913; exact q
            refine Run.pure hK (seg := [(367, .dup, 1), (368, .bipush 14, 2), (370, .bipush 101, 2)]) (by decide +kernel) (pc' := 372) (L' := #[.val (.int i0), .val (.int i1), .val (.int i2), .val (.int i3), .val (.int m), .val (.int cc), .val (.int kk), .unset, .unset]) (S' := [(.int (101 : Int32)), (.int (14 : Int32)), (.ref aq19), (.ref aq19)]) rfl ?_
            refine Run.cst hK Aq1913 ⟨by decide, by decide⟩ gq19 (by decide +kernel) (fun hq1914 Wq1914 Bq1914 => ?_)
            have Aq1914 : Arv Z hq1914 aq19 kq19 .char (20 : Int32) [(.int 99), (.int 111), (.int 109), (.int 46), (.int 101), (.int 120), (.int 97), (.int 109), (.int 112), (.int 108), (.int 101), (.int 46), (.int 107), (.int 101), (.int 101), (.int (0 : Int32)), (.int (0 : Int32)), (.int (0 : Int32)), (.int (0 : Int32)), (.int (0 : Int32))] (.int 0) := by have q := Bq1914; exact q
            refine Run.pure hK (seg := [(373, .dup, 1), (374, .bipush 15, 2), (376, .bipush 108, 2)]) (by decide +kernel) (pc' := 378) (L' := #[.val (.int i0), .val (.int i1), .val (.int i2), .val (.int i3), .val (.int m), .val (.int cc), .val (.int kk), .unset, .unset]) (S' := [(.int (108 : Int32)), (.int (15 : Int32)), (.ref aq19), (.ref aq19)]) rfl ?_
            refine Run.cst hK Aq1914 ⟨by decide, by decide⟩ gq19 (by decide +kernel) (fun hq1915 Wq1915 Bq1915 => ?_)
            have Aq1915 : Arv Z hq1915 aq19 kq19 .char (20 : Int32) [(.int 99), (.int 111), (.int 109), (.int 46), (.int 101), (.int 120), (.int 97), (.int 109), (.int 112), (.int 108), (.int 101), (.int 46), (.int 107), (.int 101), (.int 101), (.int 108), (.int (0 : Int32)), (.int (0 : Int32)), (.int (0 : Int32)), (.int (0 : Int32))] (.int 0) := by have q := Bq1915; exact q
            refine Run.pure hK (seg := [(379, .dup, 1), (380, .bipush 16, 2), (382, .bipush 115, 2)]) (by decide +kernel) (pc' := 384) (L' := #[.val (.int i0), .val (.int i1), .val (.int i2), .val (.int i3), .val (.int m), .val (.int cc), .val (.int kk), .unset, .unset]) (S' := [(.int (115 : Int32)), (.int (16 : Int32)), (.ref aq19), (.ref aq19)]) rfl ?_
            refine Run.cst hK Aq1915 ⟨by decide, by decide⟩ gq19 (by decide +kernel) (fun hq1916 Wq1916 Bq1916 => ?_)
            have Aq1916 : Arv Z hq1916 aq19 kq19 .char (20 : Int32) [(.int 99), (.int 111), (.int 109), (.int 46), (.int 101), (.int 120), (.int 97), (.int 109), (.int 112), (.int 108), (.int 101), (.int 46), (.int 107), (.int 101), (.int 101), (.int 108), (.int 115), (.int (0 : Int32)), (.int (0 : Int32)), (.int (0 : Int32))] (.int 0) := by have q := Bq1916; exact q
            refine Run.pure hK (seg := [(385, .dup, 1), (386, .bipush 17, 2), (388, .bipush 111, 2)]) (by decide +kernel) (pc' := 390) (L' := #[.val (.int i0), .val (.int i1), .val (.int i2), .val (.int i3), .val (.int m), .val (.int cc), .val (.int kk), .unset, .unset]) (S' := [(.int (111 : Int32)), (.int (17 : Int32)), (.ref aq19), (.ref aq19)]) rfl ?_
            refine Run.cst hK Aq1916 ⟨by decide, by decide⟩ gq19 (by decide +kernel) (fun hq1917 Wq1917 Bq1917 => ?_)
            have Aq1917 : Arv Z hq1917 aq19 kq19 .char (20 : Int32) [(.int 99), (.int 111), (.int 109), (.int 46), (.int 101), (.int 120), (.int 97), (.int 109), (.int 112), (.int 108), (.int 101), (.int 46), (.int 107), (.int 101), (.int 101), (.int 108), (.int 115), (.int 111), (.int (0 : Int32)), (.int (0 : Int32))] (.int 0) := by have q := Bq1917; exact q
            refine Run.pure hK (seg := [(391, .dup, 1), (392, .bipush 18, 2), (394, .bipush 110, 2)]) (by decide +kernel) (pc' := 396) (L' := #[.val (.int i0), .val (.int i1), .val (.int i2), .val (.int i3), .val (.int m), .val (.int cc), .val (.int kk), .unset, .unset]) (S' := [(.int (110 : Int32)), (.int (18 : Int32)), (.ref aq19), (.ref aq19)]) rfl ?_
            refine Run.cst hK Aq1917 ⟨by decide, by decide⟩ gq19 (by decide +kernel) (fun hq1918 Wq1918 Bq1918 => ?_)
            have Aq1918 : Arv Z hq1918 aq19 kq19 .char (20 : Int32) [(.int 99), (.int 111), (.int 109), (.int 46), (.int 101), (.int 120), (.int 97), (.int 109), (.int 112), (.int 108), (.int 101), (.int 46), (.int 107), (.int 101), (.int 101), (.int 108), (.int 115), (.int 111), (.int 110), (.int (0 : Int32))] (.int 0) := by have q := Bq1918; exact q
            refine Run.pure hK (seg := [(397, .dup, 1), (398, .bipush 19, 2), (400, .iload 5, 2)]) (by decide +kernel) (pc' := 402) (L' := #[.val (.int i0), .val (.int i1), .val (.int i2), .val (.int i3), .val (.int m), .val (.int cc), .val (.int kk), .unset, .unset]) (S' := [(.int cc), (.int (19 : Int32)), (.ref aq19), (.ref aq19)]) rfl ?_
            refine Run.cst hK Aq1918 ⟨by decide, by decide⟩ gq19 (by decide +kernel) (fun hq1919 Wq1919 Bq1919 => ?_)
            have Aq1919 : Arv Z hq1919 aq19 kq19 .char (20 : Int32) [(.int 99), (.int 111), (.int 109), (.int 46), (.int 101), (.int 120), (.int 97), (.int 109), (.int 112), (.int 108), (.int 101), (.int 46), (.int 107), (.int 101), (.int 101), (.int 108), (.int 115), (.int 111), (.int 110), (.int cc)] (.int 0) := by have q := Bq1919; rw [nc bc] at q; exact q
            refine Run.pure hK (seg := [(403, .astore 7, 2), (405, .goto 111, 3)]) (by decide +kernel) (pc' := 516) (L' := #[.val (.int i0), .val (.int i1), .val (.int i2), .val (.int i3), .val (.int m), .val (.int cc), .val (.int kk), .val (.ref aq19), .unset]) (S' := []) rfl ?_
            exact Run.mono (join1 _ _ _ [99, 111, 109, 46, 101, 120, 97, 109, 112, 108, 101, 46, 107, 101, 101, 108, 115, 111, 110, cc] _ _ Aq1919 rfl (Nat.le_of_ble_eq_true rfl) (by show 20 ≠ 13; decide) (by show 20 ≠ 19; decide) (by intro c hc; simp only [List.mem_cons, List.not_mem_nil, or_false] at hc; rcases hc with rfl | rfl | rfl | rfl | rfl | rfl | rfl | rfl | rfl | rfl | rfl | rfl | rfl | rfl | rfl | rfl | rfl | rfl | rfl | rfl <;> first | assumption | decide)) (by decide) (by decide)
        · replace qk1 := (h_ne _ _).2 qk1
          refine Run.pure hK (seg := [(204, .bipush 12, 2)]) (by decide +kernel) (pc' := 206) (L' := #[.val (.int i0), .val (.int i1), .val (.int i2), .val (.int i3), .val (.int m), .val (.int cc), .val (.int kk), .unset, .unset]) (S' := [(.int (12 : Int32))]) rfl ?_
          refine Run.newarr hK (aty := .char) (hw _ (List.mem_of_getElem? (i := 5) rfl)) (by decide +kernel) (by decide) (cap := 12) (by decide) (by decide) (by decide) (by decide) (fun hq12 kq12 Eq12 Aq12 => ?_)
          obtain ⟨aq12, zq12⟩ : ∃ z, z = h.size := ⟨_, rfl⟩
          rw [← zq12]
          rw [← zq12] at Aq12
          have gq12 : Z.heap.size ≤ aq12 := by rw [zq12]; exact hO.1
          refine Run.pure hK (seg := [(208, .dup, 1), (209, .iconst 0, 1), (210, .bipush 115, 2)]) (by decide +kernel) (pc' := 212) (L' := #[.val (.int i0), .val (.int i1), .val (.int i2), .val (.int i3), .val (.int m), .val (.int cc), .val (.int kk), .unset, .unset]) (S' := [(.int (115 : Int32)), (.int (0 : Int32)), (.ref aq12), (.ref aq12)]) rfl ?_
          refine Run.cst hK Aq12 ⟨by decide, by decide⟩ gq12 (by decide +kernel) (fun hq120 Wq120 Bq120 => ?_)
          have Aq120 : Arv Z hq120 aq12 kq12 .char (12 : Int32) [(.int 115), (.int (0 : Int32)), (.int (0 : Int32)), (.int (0 : Int32)), (.int (0 : Int32)), (.int (0 : Int32)), (.int (0 : Int32)), (.int (0 : Int32)), (.int (0 : Int32)), (.int (0 : Int32)), (.int (0 : Int32)), (.int (0 : Int32))] (.int 0) := by have q := Bq120; exact q
          refine Run.pure hK (seg := [(213, .dup, 1), (214, .iconst 1, 1), (215, .bipush 121, 2)]) (by decide +kernel) (pc' := 217) (L' := #[.val (.int i0), .val (.int i1), .val (.int i2), .val (.int i3), .val (.int m), .val (.int cc), .val (.int kk), .unset, .unset]) (S' := [(.int (121 : Int32)), (.int (1 : Int32)), (.ref aq12), (.ref aq12)]) rfl ?_
          refine Run.cst hK Aq120 ⟨by decide, by decide⟩ gq12 (by decide +kernel) (fun hq121 Wq121 Bq121 => ?_)
          have Aq121 : Arv Z hq121 aq12 kq12 .char (12 : Int32) [(.int 115), (.int 121), (.int (0 : Int32)), (.int (0 : Int32)), (.int (0 : Int32)), (.int (0 : Int32)), (.int (0 : Int32)), (.int (0 : Int32)), (.int (0 : Int32)), (.int (0 : Int32)), (.int (0 : Int32)), (.int (0 : Int32))] (.int 0) := by have q := Bq121; exact q
          refine Run.pure hK (seg := [(218, .dup, 1), (219, .iconst 2, 1), (220, .bipush 115, 2)]) (by decide +kernel) (pc' := 222) (L' := #[.val (.int i0), .val (.int i1), .val (.int i2), .val (.int i3), .val (.int m), .val (.int cc), .val (.int kk), .unset, .unset]) (S' := [(.int (115 : Int32)), (.int (2 : Int32)), (.ref aq12), (.ref aq12)]) rfl ?_
          refine Run.cst hK Aq121 ⟨by decide, by decide⟩ gq12 (by decide +kernel) (fun hq122 Wq122 Bq122 => ?_)
          have Aq122 : Arv Z hq122 aq12 kq12 .char (12 : Int32) [(.int 115), (.int 121), (.int 115), (.int (0 : Int32)), (.int (0 : Int32)), (.int (0 : Int32)), (.int (0 : Int32)), (.int (0 : Int32)), (.int (0 : Int32)), (.int (0 : Int32)), (.int (0 : Int32)), (.int (0 : Int32))] (.int 0) := by have q := Bq122; exact q
          refine Run.pure hK (seg := [(223, .dup, 1), (224, .iconst 3, 1), (225, .bipush 116, 2)]) (by decide +kernel) (pc' := 227) (L' := #[.val (.int i0), .val (.int i1), .val (.int i2), .val (.int i3), .val (.int m), .val (.int cc), .val (.int kk), .unset, .unset]) (S' := [(.int (116 : Int32)), (.int (3 : Int32)), (.ref aq12), (.ref aq12)]) rfl ?_
          refine Run.cst hK Aq122 ⟨by decide, by decide⟩ gq12 (by decide +kernel) (fun hq123 Wq123 Bq123 => ?_)
          have Aq123 : Arv Z hq123 aq12 kq12 .char (12 : Int32) [(.int 115), (.int 121), (.int 115), (.int 116), (.int (0 : Int32)), (.int (0 : Int32)), (.int (0 : Int32)), (.int (0 : Int32)), (.int (0 : Int32)), (.int (0 : Int32)), (.int (0 : Int32)), (.int (0 : Int32))] (.int 0) := by have q := Bq123; exact q
          refine Run.pure hK (seg := [(228, .dup, 1), (229, .iconst 4, 1), (230, .bipush 101, 2)]) (by decide +kernel) (pc' := 232) (L' := #[.val (.int i0), .val (.int i1), .val (.int i2), .val (.int i3), .val (.int m), .val (.int cc), .val (.int kk), .unset, .unset]) (S' := [(.int (101 : Int32)), (.int (4 : Int32)), (.ref aq12), (.ref aq12)]) rfl ?_
          refine Run.cst hK Aq123 ⟨by decide, by decide⟩ gq12 (by decide +kernel) (fun hq124 Wq124 Bq124 => ?_)
          have Aq124 : Arv Z hq124 aq12 kq12 .char (12 : Int32) [(.int 115), (.int 121), (.int 115), (.int 116), (.int 101), (.int (0 : Int32)), (.int (0 : Int32)), (.int (0 : Int32)), (.int (0 : Int32)), (.int (0 : Int32)), (.int (0 : Int32)), (.int (0 : Int32))] (.int 0) := by have q := Bq124; exact q
          refine Run.pure hK (seg := [(233, .dup, 1), (234, .iconst 5, 1), (235, .bipush 109, 2)]) (by decide +kernel) (pc' := 237) (L' := #[.val (.int i0), .val (.int i1), .val (.int i2), .val (.int i3), .val (.int m), .val (.int cc), .val (.int kk), .unset, .unset]) (S' := [(.int (109 : Int32)), (.int (5 : Int32)), (.ref aq12), (.ref aq12)]) rfl ?_
          refine Run.cst hK Aq124 ⟨by decide, by decide⟩ gq12 (by decide +kernel) (fun hq125 Wq125 Bq125 => ?_)
          have Aq125 : Arv Z hq125 aq12 kq12 .char (12 : Int32) [(.int 115), (.int 121), (.int 115), (.int 116), (.int 101), (.int 109), (.int (0 : Int32)), (.int (0 : Int32)), (.int (0 : Int32)), (.int (0 : Int32)), (.int (0 : Int32)), (.int (0 : Int32))] (.int 0) := by have q := Bq125; exact q
          refine Run.pure hK (seg := [(238, .dup, 1), (239, .bipush 6, 2), (241, .bipush 46, 2)]) (by decide +kernel) (pc' := 243) (L' := #[.val (.int i0), .val (.int i1), .val (.int i2), .val (.int i3), .val (.int m), .val (.int cc), .val (.int kk), .unset, .unset]) (S' := [(.int (46 : Int32)), (.int (6 : Int32)), (.ref aq12), (.ref aq12)]) rfl ?_
          refine Run.cst hK Aq125 ⟨by decide, by decide⟩ gq12 (by decide +kernel) (fun hq126 Wq126 Bq126 => ?_)
          have Aq126 : Arv Z hq126 aq12 kq12 .char (12 : Int32) [(.int 115), (.int 121), (.int 115), (.int 116), (.int 101), (.int 109), (.int 46), (.int (0 : Int32)), (.int (0 : Int32)), (.int (0 : Int32)), (.int (0 : Int32)), (.int (0 : Int32))] (.int 0) := by have q := Bq126; exact q
          refine Run.pure hK (seg := [(244, .dup, 1), (245, .bipush 7, 2), (247, .bipush 98, 2)]) (by decide +kernel) (pc' := 249) (L' := #[.val (.int i0), .val (.int i1), .val (.int i2), .val (.int i3), .val (.int m), .val (.int cc), .val (.int kk), .unset, .unset]) (S' := [(.int (98 : Int32)), (.int (7 : Int32)), (.ref aq12), (.ref aq12)]) rfl ?_
          refine Run.cst hK Aq126 ⟨by decide, by decide⟩ gq12 (by decide +kernel) (fun hq127 Wq127 Bq127 => ?_)
          have Aq127 : Arv Z hq127 aq12 kq12 .char (12 : Int32) [(.int 115), (.int 121), (.int 115), (.int 116), (.int 101), (.int 109), (.int 46), (.int 98), (.int (0 : Int32)), (.int (0 : Int32)), (.int (0 : Int32)), (.int (0 : Int32))] (.int 0) := by have q := Bq127; exact q
          refine Run.pure hK (seg := [(250, .dup, 1), (251, .bipush 8, 2), (253, .bipush 117, 2)]) (by decide +kernel) (pc' := 255) (L' := #[.val (.int i0), .val (.int i1), .val (.int i2), .val (.int i3), .val (.int m), .val (.int cc), .val (.int kk), .unset, .unset]) (S' := [(.int (117 : Int32)), (.int (8 : Int32)), (.ref aq12), (.ref aq12)]) rfl ?_
          refine Run.cst hK Aq127 ⟨by decide, by decide⟩ gq12 (by decide +kernel) (fun hq128 Wq128 Bq128 => ?_)
          have Aq128 : Arv Z hq128 aq12 kq12 .char (12 : Int32) [(.int 115), (.int 121), (.int 115), (.int 116), (.int 101), (.int 109), (.int 46), (.int 98), (.int 117), (.int (0 : Int32)), (.int (0 : Int32)), (.int (0 : Int32))] (.int 0) := by have q := Bq128; exact q
          refine Run.pure hK (seg := [(256, .dup, 1), (257, .bipush 9, 2), (259, .bipush 110, 2)]) (by decide +kernel) (pc' := 261) (L' := #[.val (.int i0), .val (.int i1), .val (.int i2), .val (.int i3), .val (.int m), .val (.int cc), .val (.int kk), .unset, .unset]) (S' := [(.int (110 : Int32)), (.int (9 : Int32)), (.ref aq12), (.ref aq12)]) rfl ?_
          refine Run.cst hK Aq128 ⟨by decide, by decide⟩ gq12 (by decide +kernel) (fun hq129 Wq129 Bq129 => ?_)
          have Aq129 : Arv Z hq129 aq12 kq12 .char (12 : Int32) [(.int 115), (.int 121), (.int 115), (.int 116), (.int 101), (.int 109), (.int 46), (.int 98), (.int 117), (.int 110), (.int (0 : Int32)), (.int (0 : Int32))] (.int 0) := by have q := Bq129; exact q
          refine Run.pure hK (seg := [(262, .dup, 1), (263, .bipush 10, 2), (265, .bipush 100, 2)]) (by decide +kernel) (pc' := 267) (L' := #[.val (.int i0), .val (.int i1), .val (.int i2), .val (.int i3), .val (.int m), .val (.int cc), .val (.int kk), .unset, .unset]) (S' := [(.int (100 : Int32)), (.int (10 : Int32)), (.ref aq12), (.ref aq12)]) rfl ?_
          refine Run.cst hK Aq129 ⟨by decide, by decide⟩ gq12 (by decide +kernel) (fun hq1210 Wq1210 Bq1210 => ?_)
          have Aq1210 : Arv Z hq1210 aq12 kq12 .char (12 : Int32) [(.int 115), (.int 121), (.int 115), (.int 116), (.int 101), (.int 109), (.int 46), (.int 98), (.int 117), (.int 110), (.int 100), (.int (0 : Int32))] (.int 0) := by have q := Bq1210; exact q
          refine Run.pure hK (seg := [(268, .dup, 1), (269, .bipush 11, 2), (271, .bipush 108, 2)]) (by decide +kernel) (pc' := 273) (L' := #[.val (.int i0), .val (.int i1), .val (.int i2), .val (.int i3), .val (.int m), .val (.int cc), .val (.int kk), .unset, .unset]) (S' := [(.int (108 : Int32)), (.int (11 : Int32)), (.ref aq12), (.ref aq12)]) rfl ?_
          refine Run.cst hK Aq1210 ⟨by decide, by decide⟩ gq12 (by decide +kernel) (fun hq1211 Wq1211 Bq1211 => ?_)
          have Aq1211 : Arv Z hq1211 aq12 kq12 .char (12 : Int32) [(.int 115), (.int 121), (.int 115), (.int 116), (.int 101), (.int 109), (.int 46), (.int 98), (.int 117), (.int 110), (.int 100), (.int 108)] (.int 0) := by have q := Bq1211; exact q
          refine Run.pure hK (seg := [(274, .astore 7, 2), (276, .goto 240, 3)]) (by decide +kernel) (pc' := 516) (L' := #[.val (.int i0), .val (.int i1), .val (.int i2), .val (.int i3), .val (.int m), .val (.int cc), .val (.int kk), .val (.ref aq12), .unset]) (S' := []) rfl ?_
          exact Run.mono (join1 _ _ _ [115, 121, 115, 116, 101, 109, 46, 98, 117, 110, 100, 108] _ _ Aq1211 rfl (Nat.le_of_ble_eq_true rfl) (by show 12 ≠ 13; decide) (by show 12 ≠ 19; decide) (by intro c hc; simp only [List.mem_cons, List.not_mem_nil, or_false] at hc; rcases hc with rfl | rfl | rfl | rfl | rfl | rfl | rfl | rfl | rfl | rfl | rfl | rfl <;> first | assumption | decide)) (by decide) (by decide)
      · replace qk0 := (h_ne _ _).2 qk0
        refine Run.pure hK (seg := [(111, .bipush 14, 2)]) (by decide +kernel) (pc' := 113) (L' := #[.val (.int i0), .val (.int i1), .val (.int i2), .val (.int i3), .val (.int m), .val (.int cc), .val (.int kk), .unset, .unset]) (S' := [(.int (14 : Int32))]) rfl ?_
        refine Run.newarr hK (aty := .char) (hw _ (List.mem_of_getElem? (i := 5) rfl)) (by decide +kernel) (by decide) (cap := 14) (by decide) (by decide) (by decide) (by decide) (fun hq13 kq13 Eq13 Aq13 => ?_)
        obtain ⟨aq13, zq13⟩ : ∃ z, z = h.size := ⟨_, rfl⟩
        rw [← zq13]
        rw [← zq13] at Aq13
        have gq13 : Z.heap.size ≤ aq13 := by rw [zq13]; exact hO.1
        refine Run.pure hK (seg := [(115, .dup, 1), (116, .iconst 0, 1), (117, .bipush 115, 2)]) (by decide +kernel) (pc' := 119) (L' := #[.val (.int i0), .val (.int i1), .val (.int i2), .val (.int i3), .val (.int m), .val (.int cc), .val (.int kk), .unset, .unset]) (S' := [(.int (115 : Int32)), (.int (0 : Int32)), (.ref aq13), (.ref aq13)]) rfl ?_
        refine Run.cst hK Aq13 ⟨by decide, by decide⟩ gq13 (by decide +kernel) (fun hq130 Wq130 Bq130 => ?_)
        have Aq130 : Arv Z hq130 aq13 kq13 .char (14 : Int32) [(.int 115), (.int (0 : Int32)), (.int (0 : Int32)), (.int (0 : Int32)), (.int (0 : Int32)), (.int (0 : Int32)), (.int (0 : Int32)), (.int (0 : Int32)), (.int (0 : Int32)), (.int (0 : Int32)), (.int (0 : Int32)), (.int (0 : Int32)), (.int (0 : Int32)), (.int (0 : Int32))] (.int 0) := by have q := Bq130; exact q
        refine Run.pure hK (seg := [(120, .dup, 1), (121, .iconst 1, 1), (122, .bipush 121, 2)]) (by decide +kernel) (pc' := 124) (L' := #[.val (.int i0), .val (.int i1), .val (.int i2), .val (.int i3), .val (.int m), .val (.int cc), .val (.int kk), .unset, .unset]) (S' := [(.int (121 : Int32)), (.int (1 : Int32)), (.ref aq13), (.ref aq13)]) rfl ?_
        refine Run.cst hK Aq130 ⟨by decide, by decide⟩ gq13 (by decide +kernel) (fun hq131 Wq131 Bq131 => ?_)
        have Aq131 : Arv Z hq131 aq13 kq13 .char (14 : Int32) [(.int 115), (.int 121), (.int (0 : Int32)), (.int (0 : Int32)), (.int (0 : Int32)), (.int (0 : Int32)), (.int (0 : Int32)), (.int (0 : Int32)), (.int (0 : Int32)), (.int (0 : Int32)), (.int (0 : Int32)), (.int (0 : Int32)), (.int (0 : Int32)), (.int (0 : Int32))] (.int 0) := by have q := Bq131; exact q
        refine Run.pure hK (seg := [(125, .dup, 1), (126, .iconst 2, 1), (127, .bipush 115, 2)]) (by decide +kernel) (pc' := 129) (L' := #[.val (.int i0), .val (.int i1), .val (.int i2), .val (.int i3), .val (.int m), .val (.int cc), .val (.int kk), .unset, .unset]) (S' := [(.int (115 : Int32)), (.int (2 : Int32)), (.ref aq13), (.ref aq13)]) rfl ?_
        refine Run.cst hK Aq131 ⟨by decide, by decide⟩ gq13 (by decide +kernel) (fun hq132 Wq132 Bq132 => ?_)
        have Aq132 : Arv Z hq132 aq13 kq13 .char (14 : Int32) [(.int 115), (.int 121), (.int 115), (.int (0 : Int32)), (.int (0 : Int32)), (.int (0 : Int32)), (.int (0 : Int32)), (.int (0 : Int32)), (.int (0 : Int32)), (.int (0 : Int32)), (.int (0 : Int32)), (.int (0 : Int32)), (.int (0 : Int32)), (.int (0 : Int32))] (.int 0) := by have q := Bq132; exact q
        refine Run.pure hK (seg := [(130, .dup, 1), (131, .iconst 3, 1), (132, .bipush 116, 2)]) (by decide +kernel) (pc' := 134) (L' := #[.val (.int i0), .val (.int i1), .val (.int i2), .val (.int i3), .val (.int m), .val (.int cc), .val (.int kk), .unset, .unset]) (S' := [(.int (116 : Int32)), (.int (3 : Int32)), (.ref aq13), (.ref aq13)]) rfl ?_
        refine Run.cst hK Aq132 ⟨by decide, by decide⟩ gq13 (by decide +kernel) (fun hq133 Wq133 Bq133 => ?_)
        have Aq133 : Arv Z hq133 aq13 kq13 .char (14 : Int32) [(.int 115), (.int 121), (.int 115), (.int 116), (.int (0 : Int32)), (.int (0 : Int32)), (.int (0 : Int32)), (.int (0 : Int32)), (.int (0 : Int32)), (.int (0 : Int32)), (.int (0 : Int32)), (.int (0 : Int32)), (.int (0 : Int32)), (.int (0 : Int32))] (.int 0) := by have q := Bq133; exact q
        refine Run.pure hK (seg := [(135, .dup, 1), (136, .iconst 4, 1), (137, .bipush 101, 2)]) (by decide +kernel) (pc' := 139) (L' := #[.val (.int i0), .val (.int i1), .val (.int i2), .val (.int i3), .val (.int m), .val (.int cc), .val (.int kk), .unset, .unset]) (S' := [(.int (101 : Int32)), (.int (4 : Int32)), (.ref aq13), (.ref aq13)]) rfl ?_
        refine Run.cst hK Aq133 ⟨by decide, by decide⟩ gq13 (by decide +kernel) (fun hq134 Wq134 Bq134 => ?_)
        have Aq134 : Arv Z hq134 aq13 kq13 .char (14 : Int32) [(.int 115), (.int 121), (.int 115), (.int 116), (.int 101), (.int (0 : Int32)), (.int (0 : Int32)), (.int (0 : Int32)), (.int (0 : Int32)), (.int (0 : Int32)), (.int (0 : Int32)), (.int (0 : Int32)), (.int (0 : Int32)), (.int (0 : Int32))] (.int 0) := by have q := Bq134; exact q
        refine Run.pure hK (seg := [(140, .dup, 1), (141, .iconst 5, 1), (142, .bipush 109, 2)]) (by decide +kernel) (pc' := 144) (L' := #[.val (.int i0), .val (.int i1), .val (.int i2), .val (.int i3), .val (.int m), .val (.int cc), .val (.int kk), .unset, .unset]) (S' := [(.int (109 : Int32)), (.int (5 : Int32)), (.ref aq13), (.ref aq13)]) rfl ?_
        refine Run.cst hK Aq134 ⟨by decide, by decide⟩ gq13 (by decide +kernel) (fun hq135 Wq135 Bq135 => ?_)
        have Aq135 : Arv Z hq135 aq13 kq13 .char (14 : Int32) [(.int 115), (.int 121), (.int 115), (.int 116), (.int 101), (.int 109), (.int (0 : Int32)), (.int (0 : Int32)), (.int (0 : Int32)), (.int (0 : Int32)), (.int (0 : Int32)), (.int (0 : Int32)), (.int (0 : Int32)), (.int (0 : Int32))] (.int 0) := by have q := Bq135; exact q
        refine Run.pure hK (seg := [(145, .dup, 1), (146, .bipush 6, 2), (148, .bipush 46, 2)]) (by decide +kernel) (pc' := 150) (L' := #[.val (.int i0), .val (.int i1), .val (.int i2), .val (.int i3), .val (.int m), .val (.int cc), .val (.int kk), .unset, .unset]) (S' := [(.int (46 : Int32)), (.int (6 : Int32)), (.ref aq13), (.ref aq13)]) rfl ?_
        refine Run.cst hK Aq135 ⟨by decide, by decide⟩ gq13 (by decide +kernel) (fun hq136 Wq136 Bq136 => ?_)
        have Aq136 : Arv Z hq136 aq13 kq13 .char (14 : Int32) [(.int 115), (.int 121), (.int 115), (.int 116), (.int 101), (.int 109), (.int 46), (.int (0 : Int32)), (.int (0 : Int32)), (.int (0 : Int32)), (.int (0 : Int32)), (.int (0 : Int32)), (.int (0 : Int32)), (.int (0 : Int32))] (.int 0) := by have q := Bq136; exact q
        refine Run.pure hK (seg := [(151, .dup, 1), (152, .bipush 7, 2), (154, .bipush 98, 2)]) (by decide +kernel) (pc' := 156) (L' := #[.val (.int i0), .val (.int i1), .val (.int i2), .val (.int i3), .val (.int m), .val (.int cc), .val (.int kk), .unset, .unset]) (S' := [(.int (98 : Int32)), (.int (7 : Int32)), (.ref aq13), (.ref aq13)]) rfl ?_
        refine Run.cst hK Aq136 ⟨by decide, by decide⟩ gq13 (by decide +kernel) (fun hq137 Wq137 Bq137 => ?_)
        have Aq137 : Arv Z hq137 aq13 kq13 .char (14 : Int32) [(.int 115), (.int 121), (.int 115), (.int 116), (.int 101), (.int 109), (.int 46), (.int 98), (.int (0 : Int32)), (.int (0 : Int32)), (.int (0 : Int32)), (.int (0 : Int32)), (.int (0 : Int32)), (.int (0 : Int32))] (.int 0) := by have q := Bq137; exact q
        refine Run.pure hK (seg := [(157, .dup, 1), (158, .bipush 8, 2), (160, .bipush 117, 2)]) (by decide +kernel) (pc' := 162) (L' := #[.val (.int i0), .val (.int i1), .val (.int i2), .val (.int i3), .val (.int m), .val (.int cc), .val (.int kk), .unset, .unset]) (S' := [(.int (117 : Int32)), (.int (8 : Int32)), (.ref aq13), (.ref aq13)]) rfl ?_
        refine Run.cst hK Aq137 ⟨by decide, by decide⟩ gq13 (by decide +kernel) (fun hq138 Wq138 Bq138 => ?_)
        have Aq138 : Arv Z hq138 aq13 kq13 .char (14 : Int32) [(.int 115), (.int 121), (.int 115), (.int 116), (.int 101), (.int 109), (.int 46), (.int 98), (.int 117), (.int (0 : Int32)), (.int (0 : Int32)), (.int (0 : Int32)), (.int (0 : Int32)), (.int (0 : Int32))] (.int 0) := by have q := Bq138; exact q
        refine Run.pure hK (seg := [(163, .dup, 1), (164, .bipush 9, 2), (166, .bipush 110, 2)]) (by decide +kernel) (pc' := 168) (L' := #[.val (.int i0), .val (.int i1), .val (.int i2), .val (.int i3), .val (.int m), .val (.int cc), .val (.int kk), .unset, .unset]) (S' := [(.int (110 : Int32)), (.int (9 : Int32)), (.ref aq13), (.ref aq13)]) rfl ?_
        refine Run.cst hK Aq138 ⟨by decide, by decide⟩ gq13 (by decide +kernel) (fun hq139 Wq139 Bq139 => ?_)
        have Aq139 : Arv Z hq139 aq13 kq13 .char (14 : Int32) [(.int 115), (.int 121), (.int 115), (.int 116), (.int 101), (.int 109), (.int 46), (.int 98), (.int 117), (.int 110), (.int (0 : Int32)), (.int (0 : Int32)), (.int (0 : Int32)), (.int (0 : Int32))] (.int 0) := by have q := Bq139; exact q
        refine Run.pure hK (seg := [(169, .dup, 1), (170, .bipush 10, 2), (172, .bipush 100, 2)]) (by decide +kernel) (pc' := 174) (L' := #[.val (.int i0), .val (.int i1), .val (.int i2), .val (.int i3), .val (.int m), .val (.int cc), .val (.int kk), .unset, .unset]) (S' := [(.int (100 : Int32)), (.int (10 : Int32)), (.ref aq13), (.ref aq13)]) rfl ?_
        refine Run.cst hK Aq139 ⟨by decide, by decide⟩ gq13 (by decide +kernel) (fun hq1310 Wq1310 Bq1310 => ?_)
        have Aq1310 : Arv Z hq1310 aq13 kq13 .char (14 : Int32) [(.int 115), (.int 121), (.int 115), (.int 116), (.int 101), (.int 109), (.int 46), (.int 98), (.int 117), (.int 110), (.int 100), (.int (0 : Int32)), (.int (0 : Int32)), (.int (0 : Int32))] (.int 0) := by have q := Bq1310; exact q
        refine Run.pure hK (seg := [(175, .dup, 1), (176, .bipush 11, 2), (178, .bipush 108, 2)]) (by decide +kernel) (pc' := 180) (L' := #[.val (.int i0), .val (.int i1), .val (.int i2), .val (.int i3), .val (.int m), .val (.int cc), .val (.int kk), .unset, .unset]) (S' := [(.int (108 : Int32)), (.int (11 : Int32)), (.ref aq13), (.ref aq13)]) rfl ?_
        refine Run.cst hK Aq1310 ⟨by decide, by decide⟩ gq13 (by decide +kernel) (fun hq1311 Wq1311 Bq1311 => ?_)
        have Aq1311 : Arv Z hq1311 aq13 kq13 .char (14 : Int32) [(.int 115), (.int 121), (.int 115), (.int 116), (.int 101), (.int 109), (.int 46), (.int 98), (.int 117), (.int 110), (.int 100), (.int 108), (.int (0 : Int32)), (.int (0 : Int32))] (.int 0) := by have q := Bq1311; exact q
        refine Run.pure hK (seg := [(181, .dup, 1), (182, .bipush 12, 2), (184, .bipush 101, 2)]) (by decide +kernel) (pc' := 186) (L' := #[.val (.int i0), .val (.int i1), .val (.int i2), .val (.int i3), .val (.int m), .val (.int cc), .val (.int kk), .unset, .unset]) (S' := [(.int (101 : Int32)), (.int (12 : Int32)), (.ref aq13), (.ref aq13)]) rfl ?_
        refine Run.cst hK Aq1311 ⟨by decide, by decide⟩ gq13 (by decide +kernel) (fun hq1312 Wq1312 Bq1312 => ?_)
        have Aq1312 : Arv Z hq1312 aq13 kq13 .char (14 : Int32) [(.int 115), (.int 121), (.int 115), (.int 116), (.int 101), (.int 109), (.int 46), (.int 98), (.int 117), (.int 110), (.int 100), (.int 108), (.int 101), (.int (0 : Int32))] (.int 0) := by have q := Bq1312; exact q
        refine Run.pure hK (seg := [(187, .dup, 1), (188, .bipush 13, 2), (190, .iload 5, 2)]) (by decide +kernel) (pc' := 192) (L' := #[.val (.int i0), .val (.int i1), .val (.int i2), .val (.int i3), .val (.int m), .val (.int cc), .val (.int kk), .unset, .unset]) (S' := [(.int cc), (.int (13 : Int32)), (.ref aq13), (.ref aq13)]) rfl ?_
        refine Run.cst hK Aq1312 ⟨by decide, by decide⟩ gq13 (by decide +kernel) (fun hq1313 Wq1313 Bq1313 => ?_)
        have Aq1313 : Arv Z hq1313 aq13 kq13 .char (14 : Int32) [(.int 115), (.int 121), (.int 115), (.int 116), (.int 101), (.int 109), (.int 46), (.int 98), (.int 117), (.int 110), (.int 100), (.int 108), (.int 101), (.int cc)] (.int 0) := by have q := Bq1313; rw [nc bc] at q; exact q
        refine Run.pure hK (seg := [(193, .astore 7, 2), (195, .goto 321, 3)]) (by decide +kernel) (pc' := 516) (L' := #[.val (.int i0), .val (.int i1), .val (.int i2), .val (.int i3), .val (.int m), .val (.int cc), .val (.int kk), .val (.ref aq13), .unset]) (S' := []) rfl ?_
        exact Run.mono (join1 _ _ _ [115, 121, 115, 116, 101, 109, 46, 98, 117, 110, 100, 108, 101, cc] _ _ Aq1313 rfl (Nat.le_of_ble_eq_true rfl) (by show 14 ≠ 13; decide) (by show 14 ≠ 19; decide) (by intro c hc; simp only [List.mem_cons, List.not_mem_nil, or_false] at hc; rcases hc with rfl | rfl | rfl | rfl | rfl | rfl | rfl | rfl | rfl | rfl | rfl | rfl | rfl | rfl <;> first | assumption | decide)) (by decide) (by decide)
  · replace qm0 := (h_ne _ _).2 qm0
    refine Run.pure hK (seg := [(21, .iload_n 3, 1), (22, .iconst 1, 1), (23, .iand, 1)]) (by decide +kernel) (pc' := 24) (L' := #[.val (.int i0), .val (.int i1), .val (.int i2), .val (.int i3), .val (.int m), .val (.int cc), .unset, .unset, .unset]) (S' := [(.int (i3 &&& (1 : Int32)))]) rfl ?_
    refine Run.ifz hK (cd := .ne) (o := 9) (by decide +kernel) (by decide) (pc' := 33) rfl (fun qw => ?_) (fun qw => ?_)
    · replace qw := (h_ne _ _).1 qw
      refine Run.static hK (index := 14) (y := (⟨"com/example/keelson/keelson/module/SystemBundleNamedPinLaw", "own", "()[C"⟩ : MethodName)) (Wt := 0) (kc := 1) (ks := 19) (hw _ (List.mem_of_getElem? (i := 1) rfl)) (hw _ (List.mem_of_getElem? (i := 2) rfl)) (hw _ (List.mem_of_getElem? (i := 3) rfl)) (hw _ (List.mem_of_getElem? (i := 4) rfl)) (by decide) (W' := []) (fun _ q => nomatch q) (Ctr.cal (c_own G h) (hw _ (List.mem_of_getElem? (i := 4) rfl)) (hw _ (List.mem_of_getElem? (i := 3) rfl)) (by decide) (by decide)) rfl (argsL := []) (rest := []) (lenOf pd_arr rfl) rfl (Nat.le_of_ble_eq_true rfl) (by decide +kernel) (by decide) (by decide) (fun vo ho qo no => ?_)
      obtain ⟨ao, ko, rfl, Ao, go⟩ := qo
      exact join0 _ _ _ OWN _ Ao go (Or.inr rfl)
    · replace qw := (h_ne _ _).2 qw
      refine Run.static hK (index := 8) (y := (⟨"com/example/keelson/keelson/module/SystemBundleNamedPinLaw", "alias", "()[C"⟩ : MethodName)) (Wt := 0) (kc := 1) (ks := 13) (hw _ (List.mem_of_getElem? (i := 53) rfl)) (hw _ (List.mem_of_getElem? (i := 54) rfl)) (hw _ (List.mem_of_getElem? (i := 3) rfl)) (hw _ (List.mem_of_getElem? (i := 55) rfl)) (by decide) (W' := []) (fun _ q => nomatch q) (Ctr.cal (c_ali G h) (hw _ (List.mem_of_getElem? (i := 55) rfl)) (hw _ (List.mem_of_getElem? (i := 3) rfl)) (by decide) (by decide)) rfl (argsL := []) (rest := []) (lenOf pd_arr rfl) rfl (Nat.le_of_ble_eq_true rfl) (by decide +kernel) (by decide) (by decide) (fun vo ho qo no => ?_)
      obtain ⟨ao, ko, rfl, Ao, go⟩ := qo
      refine Run.pure hK (seg := [(30, .goto 6, 3)]) (by decide +kernel) (pc' := 36) (L' := #[.val (.int i0), .val (.int i1), .val (.int i2), .val (.int i3), .val (.int m), .val (.int cc), .unset, .unset, .unset]) (S' := [(.ref ao)]) rfl ?_
      exact Run.mono (join0 _ _ _ ALI _ Ao go (Or.inl rfl)) (by decide) (by decide)
set_option maxRecDepth 65536 in
set_option maxHeartbeats 40000000 in
theorem comes_1 {Post : Tables → Env → Array Value → State → Outcome → State → Prop} (hpost : ∀ tb e args s v u, (limb_1_1.after args s (.returned v) u = true ∧ limb_1_2.after args s (.returned v) u = true ∧ True) → ReturnedEndW s (.returned v) u (Jvm.fieldLocs frame_1_writes args s ++ Jvm.arrayLocs frame_1_arrays args s ++ Jvm.staticLocs frame_1_statics s) 24 3264 → Post tb e args s (.returned v) u) :
    ArmFor flags0 classFile x code maxLocals ret World_1 tables_1 room_1 Calls_1 rest_1 Pre_1 Post := by
  intro l hfl _ _ p e ha hc hk s m args below hf hA hF happ hP
  obtain ⟨hcalls, hrest, hpre⟩ := hP
  obtain ⟨-, -, -, hnamed, -, -, -, hat⟩ := (Spec.applies_iff hf).mp happ
  obtain ⟨hg, hn⟩ := and_e (Cond.before_iff.mp (show (Jvm.Cond.and given_1 narrow_1).before args s = true from hpre))
  obtain ⟨k0, r0⟩ := and_e hg
  obtain ⟨k1, r1⟩ := and_e r0
  obtain ⟨k2, r2⟩ := and_e r1
  obtain ⟨k3, r3⟩ := and_e r2
  obtain ⟨w0, w1, w2, w3, rfl⟩ : ∃ w0 w1 w2 w3 : Value, args = #[w0, w1, w2, w3] := by
    have hs : args.size = 4 := by simpa [Cond.value, given_1] using k0
    obtain ⟨L⟩ := args
    match L, hs with
    | [w0, w1, w2, w3], _ => exact ⟨w0, w1, w2, w3, rfl⟩
  have hw := fun d (hd : d ∈ tables_1) => atoms_spec (ws := Jvm.Cond.code x code maxLocals ret :: tables_1) hat d (List.mem_cons_of_mem _ hd)
  obtain ⟨i0, f0⟩ := is_v k1
  obtain rfl : w0 = (.int i0) := Option.some.inj f0
  obtain ⟨i1, f1⟩ := is_v k2
  obtain rfl : w1 = (.int i1) := Option.some.inj f1
  obtain ⟨i2, f2⟩ := is_v k3
  obtain rfl : w2 = (.int i2) := Option.some.inj f2
  obtain ⟨i3, f3⟩ := is_v r3
  obtain rfl : w3 = (.int i3) := Option.some.inj f3
  obtain ⟨hsets, hown0⟩ := atoms_of _ (rest_1_c_eq ▸ (show rest_1_c.before _ s = true from hrest))
  have nz := not_v (Cond.before_iff.mp (hsets _ (List.mem_of_getElem? (i := 2) rfl)))
  obtain ⟨z0, ez⟩ := is_v (Cond.before_iff.mp (hsets _ (List.mem_of_getElem? (i := 1) rfl)))
  have O2 : Sta s s.heap "java/lang/String" "COMPACT_STRINGS" "Z" (.int z0) := Sta.start ez (Or.inl (hsets _ (List.mem_of_getElem? (i := 0) rfl)))
  have P5 : ¬ (z0 = (0 : Int32)) := gotF (Cond.eq_ints ez (Term.int_eval (0))) nz
  have hEL : EW s _ consts_1 := EW.cons (hw _ (List.mem_of_getElem? (i := 39) rfl)) (by decide) (EW.cons (hw _ (List.mem_of_getElem? (i := 52) rfl)) (by decide) (EW.cons (hw _ (List.mem_of_getElem? (i := 56) rfl)) (by decide) (EW.nil)))
  have hheld : ∀ p ∈ consts_1, Jvm.Lit.constHeld s p.1 p.2 := fun p hp => hcalls.1 p hp
  have hCH : CHv s consts_1 s.vm s.heap := CHv.start hEL hheld (show (Jvm.Cond.not (Jvm.Cond.eq (Jvm.Term.static "java/lang/String" "COMPACT_STRINGS" "Z") (Jvm.Term.int (0 : Int32)))).before _ s = true from (hsets _ (List.mem_of_getElem? (i := 2) rfl))) (hw _ (List.mem_of_getElem? (i := 24) rfl)) (hw _ (List.mem_of_getElem? (i := 7) rfl))
  obtain ⟨n, o, g1, g2, g3, v, Lo, rfl, hv, hF', -, hq, hwn, -⟩ := c_law (⟨hw, hEL, O2, P5, rfl⟩ : Env1 s _ z0 .null) i0 i1 i2 i3 s.heap p e ha hc hk s m _ below hf ((Spec.applies_iff_loose hf).mp happ).1 ⟨rfl, State.Warmed39.refl s, rfl, hCH, fun _ q => (nomatch q), Nat.le_refl _, fun _ _ q => q⟩ trivial
  obtain rfl : v = some (.int 1) := hv
  refine ⟨n, _, g1, g2, g3, hpost _ _ _ _ _ _ ⟨Cond.after_iff.mpr rfl, Cond.after_iff.mpr (eq_i res_at (Term.int_eval (1)) rfl), trivial⟩ ⟨hq.1, hq.2.1, hq.2.2.1, (hq.2.2.2.sift fun y hy => Or.inr (hF' y hy)).mono (by decide) (by decide)⟩⟩
theorem main_1_1 : Claimed_1_1 := comes_1 fun _ _ _ _ _ _ h hF => ⟨h.1, hF⟩
theorem main_1_2 : Claimed_1_2 := comes_1 fun _ _ _ _ _ _ h hF => ⟨h.2.1, hF⟩
end Jvm.Pilot.@@N@@
namespace Jvm.Pilot.@@N@@
open Jvm Jvm.ClassFile Sem Op Lib Jvm.Free Jvm.Stand Jvm.Pilot.@@N@@.Jvm.D
/-! MADE BY PROGRAM (witnessworld.py) out of the Statement's table words and the real class files: 20 classes; the members and pool entries that the words name. The judged class is class 1, her method 3. -/
namespace start1
open Jvm.ClassFile
def u (s : String) : CpInfo := .utf8 (stringToUtf16 s)
/-- a pool by its gaps: so many unusable entries, then the entry; so many at the end -/
def gap : Nat → List CpInfo → List CpInfo
  | 0, r => r
  | n + 1, r => .unusable :: gap n r
def poolList (es : List (Nat × CpInfo)) (last : Nat) : List CpInfo := es.foldr (fun e r => gap e.1 (e.2 :: r)) (gap last [])
def pool (es : List (Nat × CpInfo)) (last : Nat) : Array CpInfo := ⟨poolList es last⟩
def fileOf (pool : Array CpInfo) (this : Nat) (attrs : Array Attribute := #[]) (ms : Array MethodInfo := #[]) (fl : Nat := 33) (sup : Nat := 0) (ifs : Array Nat := #[]) (fds : Array FieldInfo := #[]) : ClassFile where
  minorVersion := 0
  majorVersion := 65
  constantPool := pool
  accessFlags := fl
  thisClass := this
  superClass := sup
  interfaces := ifs
  fields := fds
  methods := ms
  attributes := attrs
def plain (name : String) (sup : Option ClassId) : Class where
  name := name
  kind := .ordinary
  loader := none
  accessFlags := 33
  super := sup
  interfaces := #[]
  cf := none
  fields := #[]
  methods := #[]
  instanceTypes := #[]
  staticTypes := #[]
  resolved := #[]
  callSites := []
  init := .initialized
  statics := none
  mirror := none

def pool0 : Array CpInfo := pool [(5, u "<init>"), (0, u "()V"), (1, .class_ 10), (1, u "java/lang/Object")] 113

def k0c0 : Code := { maxStack := 0, maxLocals := 1, code := object_method_1_code, exceptionTable := #[], attributes := #[] }
def k0m0 : Method := { name := "<init>", desc := "()V", sig := { parameters := [], returnType := none }, accessFlags := 1, code := some k0c0 }
/-- java/lang/Object -/
def k0 : Class := { plain "java/lang/Object" none with
  accessFlags := 33
  interfaces := #[]
  cf := some (fileOf pool0 8 #[] #[{ accessFlags := 1, nameIndex := 5, descriptorIndex := 6, attributes := #[] }] 33 0 #[] #[])
  fields := #[]
  methods := #[k0m0]
  instanceTypes := #[]
  staticTypes := #[]
  resolved := Array.replicate 124 none
  statics := none }

def pool1 : Array CpInfo := pool [(2, .class_ 4), (1, u "java/lang/Object"), (0, u "<init>"), (0, u "()V"), (0, .integer 2147483647), (0, .methodref 9 10), (0, .class_ 11), (0, .nameAndType 12 13), (0, u "com/example/keelson/keelson/module/SystemBundleNamedPinLaw"), (0, u "alias"), (0, u "()[C"), (0, .methodref 9 15), (0, .nameAndType 16 13), (0, u "own"), (0, .class_ 18), (0, u "java/lang/String"), (0, .methodref 17 20), (0, .nameAndType 5 21), (0, u "([C)V"), (0, .methodref 23 24), (0, .class_ 25), (0, .nameAndType 26 27), (0, u "com/example/keelson/keelson/module/SystemBundle"), (0, u "named"), (0, u "(Ljava/lang/String;)Z"), (0, .methodref 17 29), (0, .nameAndType 30 31), (0, u "valueOf"), (0, u "(C)Ljava/lang/String;"), (2, u "law"), (0, u "(IIII)Z")] 5

def k1m0 : Method := { name := "<init>", desc := "()V", sig := { parameters := [], returnType := none }, accessFlags := 1, code := none }
def k1c1 : Code := { maxStack := 4, maxLocals := 0, code := method_2_code, exceptionTable := #[], attributes := #[] }
def k1m1 : Method := { name := "alias", desc := "()[C", sig := { parameters := [], returnType := some (.array .char) }, accessFlags := 10, code := some k1c1 }
def k1c2 : Code := { maxStack := 4, maxLocals := 0, code := method_3_code, exceptionTable := #[], attributes := #[] }
def k1m2 : Method := { name := "own", desc := "()[C", sig := { parameters := [], returnType := some (.array .char) }, accessFlags := 10, code := some k1c2 }
def k1c3 : Code := { maxStack := 5, maxLocals := 9, code := code, exceptionTable := #[], attributes := #[] }
def k1m3 : Method := { name := "law", desc := "(IIII)Z", sig := { parameters := [.int, .int, .int, .int], returnType := some .boolean }, accessFlags := 9, code := some k1c3 }
/-- com/example/keelson/keelson/module/SystemBundleNamedPinLaw -/
def k1 : Class := { plain "com/example/keelson/keelson/module/SystemBundleNamedPinLaw" (some 0) with
  accessFlags := 49
  interfaces := #[]
  cf := some (fileOf pool1 9 #[] #[{ accessFlags := 1, nameIndex := 5, descriptorIndex := 6, attributes := #[] }, { accessFlags := 10, nameIndex := 12, descriptorIndex := 13, attributes := #[] }, { accessFlags := 10, nameIndex := 16, descriptorIndex := 13, attributes := #[] }, { accessFlags := 9, nameIndex := 34, descriptorIndex := 35, attributes := #[] }] 49 2 #[] #[])
  fields := #[]
  methods := #[k1m0, k1m1, k1m2, k1m3]
  instanceTypes := #[]
  staticTypes := #[]
  resolved := Array.replicate 41 none
  statics := none }

def pool2 : Array CpInfo := pool [(1, .class_ 2), (0, u "java/io/Serializable"), (0, .class_ 4), (0, u "java/lang/Object")] 2

/-- java/io/Serializable -/
def k2 : Class := { plain "java/io/Serializable" (some 0) with
  accessFlags := 1537
  interfaces := #[]
  cf := some (fileOf pool2 1 #[] #[] 1537 3 #[] #[])
  fields := #[]
  methods := #[]
  instanceTypes := #[]
  staticTypes := #[]
  resolved := Array.replicate 7 none
  statics := none }

def pool3 : Array CpInfo := pool [(1, .class_ 2), (0, u "java/lang/Comparable"), (0, .class_ 4), (0, u "java/lang/Object")] 7

/-- java/lang/Comparable -/
def k3 : Class := { plain "java/lang/Comparable" (some 0) with
  accessFlags := 1537
  interfaces := #[]
  cf := some (fileOf pool3 1 #[] #[] 1537 3 #[] #[])
  fields := #[]
  methods := #[]
  instanceTypes := #[]
  staticTypes := #[]
  resolved := Array.replicate 12 none
  statics := none }

def pool4 : Array CpInfo := pool [(2, .class_ 4), (1, u "java/lang/CharSequence"), (42, .class_ 48), (0, u "java/lang/CharSequence$1CodePointIterator"), (10, .class_ 60), (0, u "java/lang/CharSequence$1CharIterator"), (5, .class_ 67), (0, u "java/lang/Object")] 63

/-- java/lang/CharSequence -/
def k4 : Class := { plain "java/lang/CharSequence" (some 0) with
  accessFlags := 1537
  interfaces := #[]
  cf := some (fileOf pool4 2 #[.nestMembers #[47, 59]] #[] 1537 66 #[] #[])
  fields := #[]
  methods := #[]
  instanceTypes := #[]
  staticTypes := #[]
  resolved := Array.replicate 131 none
  statics := none }

def pool5 : Array CpInfo := pool [(1, .class_ 2), (0, u "java/lang/constant/Constable"), (0, .class_ 4), (0, u "java/lang/Object")] 6

/-- java/lang/constant/Constable -/
def k5 : Class := { plain "java/lang/constant/Constable" (some 0) with
  accessFlags := 1537
  interfaces := #[]
  cf := some (fileOf pool5 1 #[] #[] 1537 3 #[] #[])
  fields := #[]
  methods := #[]
  instanceTypes := #[]
  staticTypes := #[]
  resolved := Array.replicate 11 none
  statics := none }

def pool6 : Array CpInfo := pool [(1, .class_ 2), (0, u "java/lang/constant/ConstantDesc"), (0, .class_ 4), (0, u "java/lang/Object")] 32

/-- java/lang/constant/ConstantDesc -/
def k6 : Class := { plain "java/lang/constant/ConstantDesc" (some 0) with
  accessFlags := 1537
  interfaces := #[]
  cf := some (fileOf pool6 1 #[] #[] 1537 3 #[] #[])
  fields := #[]
  methods := #[]
  instanceTypes := #[]
  staticTypes := #[]
  resolved := Array.replicate 37 none
  statics := none }

def pool7 : Array CpInfo := pool [(1, .methodref 2 3), (0, .class_ 4), (0, .nameAndType 5 6), (0, u "java/lang/Object"), (0, u "<init>"), (0, u "()V"), (0, .string 8), (0, u ""), (0, .fieldref 10 11), (0, .class_ 12), (0, .nameAndType 13 14), (0, u "java/lang/String"), (0, u "value"), (0, u "[B"), (0, .fieldref 10 16), (0, .nameAndType 17 18), (0, u "coder"), (0, u "B"), (2, u "hash"), (0, u "I"), (2, u "hashIsZero"), (0, u "Z"), (0, .methodref 10 28), (0, .nameAndType 5 29), (0, u "([CIILjava/lang/Void;)V"), (8, .fieldref 10 39), (0, .nameAndType 40 26), (0, u "COMPACT_STRINGS"), (1, .class_ 44), (1, u "java/lang/StringUTF16"), (0, u "compress"), (1, .methodref 42 48), (0, .nameAndType 49 50), (0, u "coderFromArrayLen"), (0, u "([BI)B"), (2, u "toBytes"), (53, .class_ 109), (1, u "java/lang/StringLatin1"), (67, .methodref 42 178), (0, .nameAndType 45 179), (0, u "([CII)[B"), (29, .methodref 10 210), (0, .nameAndType 5 211), (0, u "([BB)V"), (157, u "(C)Z"), (171, .methodref 107 542), (0, .nameAndType 543 544), (0, u "equals"), (0, u "([B[B)Z"), (28, u "(Ljava/lang/Object;)Z"), (1, .class_ 576), (0, u "java/lang/CharSequence"), (22, u "CASE_INSENSITIVE_ORDER"), (0, u "Ljava/util/Comparator;"), (181, u "valueOf"), (0, u "(C)Ljava/lang/String;"), (226, u "([C)V"), (4, .methodref 107 1016), (0, .nameAndType 1017 369), (0, u "canEncode"), (0, .methodref 107 1019), (0, .nameAndType 53 1020), (0, u "(C)[B"), (80, u "serialPersistentFields"), (0, u "[Ljava/io/ObjectStreamField;"), (0, .class_ 1104), (0, u "java/lang/String$CaseInsensitiveComparator"), (1, .class_ 1107), (0, u "java/io/Serializable"), (0, .class_ 1109), (0, u "java/lang/Comparable"), (0, .class_ 1111), (0, u "java/lang/constant/Constable"), (0, .class_ 1113), (0, u "java/lang/constant/ConstantDesc"), (2, u "serialVersionUID"), (0, u "J"), (3, u "REPL"), (0, u "C"), (2, u "LATIN1"), (1, u "UTF16")] 323

def k7m0 : Method := { name := "<init>", desc := "()V", sig := { parameters := [], returnType := none }, accessFlags := 1, code := none }
def k7c1 : Code := { maxStack := 5, maxLocals := 2, code := jdk_42_method_3_code, exceptionTable := #[], attributes := #[] }
def k7m1 : Method := { name := "<init>", desc := "([C)V", sig := { parameters := [(.array .char)], returnType := none }, accessFlags := 1, code := some k7c1 }
def k7c2 : Code := { maxStack := 2, maxLocals := 3, code := jdk_42_method_66_code, exceptionTable := #[], attributes := #[] }
def k7m2 : Method := { name := "equals", desc := "(Ljava/lang/Object;)Z", sig := { parameters := [(.object "java/lang/Object")], returnType := some .boolean }, accessFlags := 1, code := some k7c2 }
def k7c3 : Code := { maxStack := 4, maxLocals := 1, code := jdk_42_method_139_code, exceptionTable := #[], attributes := #[] }
def k7m3 : Method := { name := "valueOf", desc := "(C)Ljava/lang/String;", sig := { parameters := [.char], returnType := some (.object "java/lang/String") }, accessFlags := 9, code := some k7c3 }
def k7c4 : Code := { maxStack := 4, maxLocals := 6, code := jdk_42_method_149_code, exceptionTable := #[], attributes := #[] }
def k7m4 : Method := { name := "<init>", desc := "([CIILjava/lang/Void;)V", sig := { parameters := [(.array .char), .int, .int, (.object "java/lang/Void")], returnType := none }, accessFlags := 2, code := some k7c4 }
def k7c5 : Code := { maxStack := 2, maxLocals := 3, code := jdk_42_method_151_code, exceptionTable := #[], attributes := #[] }
def k7m5 : Method := { name := "<init>", desc := "([BB)V", sig := { parameters := [(.array .byte), .byte], returnType := none }, accessFlags := 0, code := some k7c5 }
/-- java/lang/String -/
def k7 : Class := { plain "java/lang/String" (some 0) with
  accessFlags := 49
  interfaces := #[2, 3, 4, 5, 6]
  cf := some (fileOf pool7 10 #[.nestMembers #[1103]] #[{ accessFlags := 1, nameIndex := 5, descriptorIndex := 6, attributes := #[] }, { accessFlags := 1, nameIndex := 5, descriptorIndex := 1010, attributes := #[] }, { accessFlags := 1, nameIndex := 543, descriptorIndex := 573, attributes := #[] }, { accessFlags := 9, nameIndex := 782, descriptorIndex := 783, attributes := #[] }, { accessFlags := 2, nameIndex := 5, descriptorIndex := 29, attributes := #[] }, { accessFlags := 0, nameIndex := 5, descriptorIndex := 211, attributes := #[] }] 49 2 #[1106, 1108, 575, 1110, 1112] #[{ accessFlags := 18, nameIndex := 13, descriptorIndex := 14, attributes := #[] }, { accessFlags := 18, nameIndex := 17, descriptorIndex := 18, attributes := #[] }, { accessFlags := 2, nameIndex := 21, descriptorIndex := 22, attributes := #[] }, { accessFlags := 2, nameIndex := 25, descriptorIndex := 26, attributes := #[] }, { accessFlags := 26, nameIndex := 1116, descriptorIndex := 1117, attributes := #[] }, { accessFlags := 24, nameIndex := 40, descriptorIndex := 26, attributes := #[] }, { accessFlags := 26, nameIndex := 1101, descriptorIndex := 1102, attributes := #[] }, { accessFlags := 26, nameIndex := 1121, descriptorIndex := 1122, attributes := #[] }, { accessFlags := 25, nameIndex := 599, descriptorIndex := 600, attributes := #[] }, { accessFlags := 24, nameIndex := 1125, descriptorIndex := 18, attributes := #[] }, { accessFlags := 24, nameIndex := 1127, descriptorIndex := 18, attributes := #[] }])
  fields := #[{ name := "value", type := (.array .byte), accessFlags := 18, slot := 0, constantValue := 0 }, { name := "coder", type := .byte, accessFlags := 18, slot := 1, constantValue := 0 }, { name := "hash", type := .int, accessFlags := 2, slot := 2, constantValue := 0 }, { name := "hashIsZero", type := .boolean, accessFlags := 2, slot := 3, constantValue := 0 }, { name := "serialVersionUID", type := .long, accessFlags := 26, slot := 0, constantValue := 0 }, { name := "COMPACT_STRINGS", type := .boolean, accessFlags := 24, slot := 1, constantValue := 0 }, { name := "serialPersistentFields", type := (.array (.object "java/io/ObjectStreamField")), accessFlags := 26, slot := 2, constantValue := 0 }, { name := "REPL", type := .char, accessFlags := 26, slot := 3, constantValue := 0 }, { name := "CASE_INSENSITIVE_ORDER", type := (.object "java/util/Comparator"), accessFlags := 25, slot := 4, constantValue := 0 }, { name := "LATIN1", type := .byte, accessFlags := 24, slot := 5, constantValue := 0 }, { name := "UTF16", type := .byte, accessFlags := 24, slot := 6, constantValue := 0 }]
  methods := #[k7m0, k7m1, k7m2, k7m3, k7m4, k7m5]
  instanceTypes := #[(.array .byte), .byte, .int, .boolean]
  staticTypes := #[.long, .boolean, (.array (.object "java/io/ObjectStreamField")), .char, (.object "java/util/Comparator"), .byte, .byte]
  resolved := Array.replicate 1451 none
  statics := some 0 }

def pool8 : Array CpInfo := pool [(6, .class_ 8), (1, u "java/lang/Object"), (0, u "<init>"), (0, u "()V"), (1, .class_ 14), (1, u "java/lang/StringUTF16"), (31, u "$assertionsDisabled"), (0, u "Z"), (13, u "HI_BYTE_SHIFT"), (0, u "I"), (2, u "LO_BYTE_SHIFT"), (49, .methodref 12 116), (0, .nameAndType 117 118), (0, u "compress"), (0, u "([CI[BII)I"), (3, u "([CII)[B"), (138, u "coderFromArrayLen"), (0, u "([BI)B"), (106, .class_ 371), (1, u "java/lang/StringUTF16$LinesSpliterator"), (58, u "MAX_LENGTH"), (196, .class_ 628), (0, u "java/lang/StringUTF16$CodePointsSpliterator"), (0, .class_ 630), (0, u "java/lang/StringUTF16$CharsSpliterator")] 4

def k8m0 : Method := { name := "<init>", desc := "()V", sig := { parameters := [], returnType := none }, accessFlags := 0, code := none }
def k8c1 : Code := { maxStack := 2, maxLocals := 2, code := jdk_52_method_15_code, exceptionTable := #[], attributes := #[] }
def k8m1 : Method := { name := "coderFromArrayLen", desc := "([BI)B", sig := { parameters := [(.array .byte), .int], returnType := some .byte }, accessFlags := 8, code := some k8c1 }
def k8c2 : Code := { maxStack := 5, maxLocals := 6, code := jdk_52_method_16_code, exceptionTable := #[], attributes := #[] }
def k8m2 : Method := { name := "compress", desc := "([CII)[B", sig := { parameters := [(.array .char), .int, .int], returnType := some (.array .byte) }, accessFlags := 9, code := some k8c2 }
def k8c3 : Code := { maxStack := 3, maxLocals := 7, code := jdk_52_method_21_code, exceptionTable := #[], attributes := #[] }
def k8m3 : Method := { name := "compress", desc := "([CI[BII)I", sig := { parameters := [(.array .char), .int, (.array .byte), .int, .int], returnType := some .int }, accessFlags := 9, code := some k8c3 }
/-- java/lang/StringUTF16 -/
def k8 : Class := { plain "java/lang/StringUTF16" (some 0) with
  accessFlags := 48
  interfaces := #[]
  cf := some (fileOf pool8 12 #[.nestMembers #[627, 629, 369]] #[{ accessFlags := 0, nameIndex := 9, descriptorIndex := 10, attributes := #[] }, { accessFlags := 8, nameIndex := 261, descriptorIndex := 262, attributes := #[] }, { accessFlags := 9, nameIndex := 117, descriptorIndex := 122, attributes := #[] }, { accessFlags := 9, nameIndex := 117, descriptorIndex := 118, attributes := #[] }] 48 6 #[] #[{ accessFlags := 26, nameIndex := 61, descriptorIndex := 62, attributes := #[] }, { accessFlags := 26, nameIndex := 65, descriptorIndex := 62, attributes := #[] }, { accessFlags := 24, nameIndex := 430, descriptorIndex := 62, attributes := #[] }, { accessFlags := 4120, nameIndex := 46, descriptorIndex := 47, attributes := #[] }])
  fields := #[{ name := "HI_BYTE_SHIFT", type := .int, accessFlags := 26, slot := 0, constantValue := 0 }, { name := "LO_BYTE_SHIFT", type := .int, accessFlags := 26, slot := 1, constantValue := 0 }, { name := "MAX_LENGTH", type := .int, accessFlags := 24, slot := 2, constantValue := 0 }, { name := "$assertionsDisabled", type := .boolean, accessFlags := 4120, slot := 3, constantValue := 0 }]
  methods := #[k8m0, k8m1, k8m2, k8m3]
  instanceTypes := #[]
  staticTypes := #[.int, .int, .int, .boolean]
  resolved := Array.replicate 635 none
  statics := none }

def pool9 : Array CpInfo := pool [(2, .class_ 4), (1, u "java/lang/Object"), (0, u "<init>"), (0, u "()V"), (2, .string 10), (0, u "system.bundle"), (0, .methodref 12 13), (0, .class_ 14), (0, .nameAndType 15 16), (0, u "java/lang/String"), (0, u "equals"), (0, u "(Ljava/lang/Object;)Z"), (0, .class_ 18), (0, u "com/example/keelson/keelson/module/SystemBundle"), (0, .string 20), (0, u "com.example.keelson"), (0, u "SYMBOLIC_NAME"), (0, u "Ljava/lang/String;"), (3, u "named"), (0, u "(Ljava/lang/String;)Z")] 3

def k9m0 : Method := { name := "<init>", desc := "()V", sig := { parameters := [], returnType := none }, accessFlags := 2, code := none }
def k9c1 : Code := { maxStack := 2, maxLocals := 1, code := prog_101_method_2_code, exceptionTable := #[], attributes := #[] }
def k9m1 : Method := { name := "named", desc := "(Ljava/lang/String;)Z", sig := { parameters := [(.object "java/lang/String")], returnType := some .boolean }, accessFlags := 8, code := some k9c1 }
/-- com/example/keelson/keelson/module/SystemBundle -/
def k9 : Class := { plain "com/example/keelson/keelson/module/SystemBundle" (some 0) with
  accessFlags := 49
  interfaces := #[]
  cf := some (fileOf pool9 17 #[] #[{ accessFlags := 2, nameIndex := 5, descriptorIndex := 6, attributes := #[] }, { accessFlags := 8, nameIndex := 26, descriptorIndex := 27, attributes := #[] }] 49 2 #[] #[{ accessFlags := 25, nameIndex := 21, descriptorIndex := 22, attributes := #[] }])
  fields := #[{ name := "SYMBOLIC_NAME", type := (.object "java/lang/String"), accessFlags := 25, slot := 0, constantValue := 0 }]
  methods := #[k9m0, k9m1]
  instanceTypes := #[]
  staticTypes := #[(.object "java/lang/String")]
  resolved := Array.replicate 31 none
  statics := none }

def pool10 : Array CpInfo := pool [(4, .class_ 6), (1, u "java/lang/Object"), (0, u "<init>"), (0, u "()V"), (5, .class_ 16), (1, u "java/lang/StringLatin1"), (73, u "canEncode"), (14, u "(C)Z"), (15, u "$assertionsDisabled"), (0, u "Z"), (98, .class_ 223), (1, u "java/lang/StringLatin1$LinesSpliterator"), (57, u "equals"), (0, u "([B[B)Z"), (97, u "toBytes"), (1, u "(C)[B"), (7, .class_ 391), (0, u "java/lang/StringLatin1$CharsSpliterator")] 3

def k10m0 : Method := { name := "<init>", desc := "()V", sig := { parameters := [], returnType := none }, accessFlags := 0, code := none }
def k10c1 : Code := { maxStack := 2, maxLocals := 1, code := jdk_43_method_3_code, exceptionTable := #[], attributes := #[] }
def k10m1 : Method := { name := "canEncode", desc := "(C)Z", sig := { parameters := [.char], returnType := some .boolean }, accessFlags := 9, code := some k10c1 }
def k10c2 : Code := { maxStack := 3, maxLocals := 3, code := jdk_43_method_13_code, exceptionTable := #[], attributes := #[] }
def k10m2 : Method := { name := "equals", desc := "([B[B)Z", sig := { parameters := [(.array .byte), (.array .byte)], returnType := some .boolean }, accessFlags := 9, code := some k10c2 }
def k10c3 : Code := { maxStack := 4, maxLocals := 1, code := jdk_43_method_46_code, exceptionTable := #[], attributes := #[] }
def k10m3 : Method := { name := "toBytes", desc := "(C)[B", sig := { parameters := [.char], returnType := some (.array .byte) }, accessFlags := 9, code := some k10c3 }
/-- java/lang/StringLatin1 -/
def k10 : Class := { plain "java/lang/StringLatin1" (some 0) with
  accessFlags := 48
  interfaces := #[]
  cf := some (fileOf pool10 14 #[.nestMembers #[390, 221]] #[{ accessFlags := 0, nameIndex := 7, descriptorIndex := 8, attributes := #[] }, { accessFlags := 9, nameIndex := 90, descriptorIndex := 105, attributes := #[] }, { accessFlags := 9, nameIndex := 281, descriptorIndex := 282, attributes := #[] }, { accessFlags := 9, nameIndex := 380, descriptorIndex := 382, attributes := #[] }] 48 4 #[] #[{ accessFlags := 4120, nameIndex := 121, descriptorIndex := 122, attributes := #[] }])
  fields := #[{ name := "$assertionsDisabled", type := .boolean, accessFlags := 4120, slot := 0, constantValue := 0 }]
  methods := #[k10m0, k10m1, k10m2, k10m3]
  instanceTypes := #[]
  staticTypes := #[.boolean]
  resolved := Array.replicate 395 none
  statics := none }

def pool11 : Array CpInfo := pool [(2, .class_ 4), (1, u "java/lang/Object"), (0, u "<init>"), (0, u "()V"), (17, .class_ 26), (1, u "jdk/internal/util/Preconditions"), (28, .class_ 56), (0, u "jdk/internal/util/Preconditions$4"), (57, .class_ 115), (0, u "jdk/internal/util/Preconditions$1"), (7, u "SIOOBE_FORMATTER"), (0, u "Ljava/util/function/BiFunction;"), (0, .class_ 126), (0, u "jdk/internal/util/Preconditions$2"), (3, u "AIOOBE_FORMATTER"), (0, .class_ 132), (0, u "jdk/internal/util/Preconditions$3"), (3, u "IOOBE_FORMATTER")] 57

def k11m0 : Method := { name := "<init>", desc := "()V", sig := { parameters := [], returnType := none }, accessFlags := 1, code := none }
/-- jdk/internal/util/Preconditions -/
def k11 : Class := { plain "jdk/internal/util/Preconditions" (some 0) with
  accessFlags := 33
  interfaces := #[]
  cf := some (fileOf pool11 24 #[.nestMembers #[55, 131, 125, 114]] #[{ accessFlags := 1, nameIndex := 5, descriptorIndex := 6, attributes := #[] }] 33 2 #[] #[{ accessFlags := 25, nameIndex := 123, descriptorIndex := 124, attributes := #[] }, { accessFlags := 25, nameIndex := 130, descriptorIndex := 124, attributes := #[] }, { accessFlags := 25, nameIndex := 136, descriptorIndex := 124, attributes := #[] }])
  fields := #[{ name := "SIOOBE_FORMATTER", type := (.object "java/util/function/BiFunction"), accessFlags := 25, slot := 0, constantValue := 0 }, { name := "AIOOBE_FORMATTER", type := (.object "java/util/function/BiFunction"), accessFlags := 25, slot := 1, constantValue := 0 }, { name := "IOOBE_FORMATTER", type := (.object "java/util/function/BiFunction"), accessFlags := 25, slot := 2, constantValue := 0 }]
  methods := #[k11m0]
  instanceTypes := #[]
  staticTypes := #[(.object "java/util/function/BiFunction"), (.object "java/util/function/BiFunction"), (.object "java/util/function/BiFunction")]
  resolved := Array.replicate 194 none
  statics := some 1 }

def pool12 : Array CpInfo := pool [(9, u "<init>"), (6, .class_ 18), (1, u "java/lang/Object"), (0, u "()V"), (1, .class_ 23), (1, u "jdk/internal/util/ArraysSupport"), (0, u "LOG2_ARRAY_LONG_INDEX_SCALE"), (0, u "I"), (2, u "U"), (0, u "Ljdk/internal/misc/Unsafe;"), (8, u "BIG_ENDIAN"), (0, u "Z"), (8, u "LOG2_BYTE_BIT_SIZE"), (4, u "LOG2_ARRAY_INT_INDEX_SCALE"), (54, u "JLA"), (0, u "Ljdk/internal/access/JavaLangAccess;"), (11, u "LOG2_ARRAY_BOOLEAN_INDEX_SCALE"), (9, u "LOG2_ARRAY_BYTE_INDEX_SCALE"), (5, u "LOG2_ARRAY_CHAR_INDEX_SCALE"), (5, u "LOG2_ARRAY_SHORT_INDEX_SCALE"), (18, u "LOG2_ARRAY_FLOAT_INDEX_SCALE"), (24, u "LOG2_ARRAY_DOUBLE_INDEX_SCALE"), (89, u "T_BOOLEAN"), (2, u "T_CHAR"), (1, u "T_FLOAT"), (1, u "T_DOUBLE"), (1, u "T_BYTE"), (1, u "T_SHORT"), (1, u "T_INT"), (1, u "T_LONG"), (1, u "SOFT_MAX_ARRAY_LENGTH")] 83

def k12m0 : Method := { name := "<init>", desc := "()V", sig := { parameters := [], returnType := none }, accessFlags := 2, code := none }
/-- jdk/internal/util/ArraysSupport -/
def k12 : Class := { plain "jdk/internal/util/ArraysSupport" (some 0) with
  accessFlags := 33
  interfaces := #[]
  cf := some (fileOf pool12 21 #[] #[{ accessFlags := 2, nameIndex := 9, descriptorIndex := 19, attributes := #[] }] 33 16 #[] #[{ accessFlags := 24, nameIndex := 28, descriptorIndex := 29, attributes := #[] }, { accessFlags := 26, nameIndex := 38, descriptorIndex := 39, attributes := #[] }, { accessFlags := 25, nameIndex := 121, descriptorIndex := 25, attributes := #[] }, { accessFlags := 25, nameIndex := 131, descriptorIndex := 25, attributes := #[] }, { accessFlags := 25, nameIndex := 137, descriptorIndex := 25, attributes := #[] }, { accessFlags := 25, nameIndex := 143, descriptorIndex := 25, attributes := #[] }, { accessFlags := 25, nameIndex := 53, descriptorIndex := 25, attributes := #[] }, { accessFlags := 25, nameIndex := 24, descriptorIndex := 25, attributes := #[] }, { accessFlags := 25, nameIndex := 162, descriptorIndex := 25, attributes := #[] }, { accessFlags := 25, nameIndex := 187, descriptorIndex := 25, attributes := #[] }, { accessFlags := 26, nameIndex := 48, descriptorIndex := 25, attributes := #[] }, { accessFlags := 25, nameIndex := 277, descriptorIndex := 25, attributes := #[] }, { accessFlags := 25, nameIndex := 280, descriptorIndex := 25, attributes := #[] }, { accessFlags := 25, nameIndex := 282, descriptorIndex := 25, attributes := #[] }, { accessFlags := 25, nameIndex := 284, descriptorIndex := 25, attributes := #[] }, { accessFlags := 25, nameIndex := 286, descriptorIndex := 25, attributes := #[] }, { accessFlags := 25, nameIndex := 288, descriptorIndex := 25, attributes := #[] }, { accessFlags := 25, nameIndex := 290, descriptorIndex := 25, attributes := #[] }, { accessFlags := 25, nameIndex := 292, descriptorIndex := 25, attributes := #[] }, { accessFlags := 26, nameIndex := 108, descriptorIndex := 109, attributes := #[] }, { accessFlags := 25, nameIndex := 294, descriptorIndex := 25, attributes := #[] }])
  fields := #[{ name := "U", type := (.object "jdk/internal/misc/Unsafe"), accessFlags := 24, slot := 0, constantValue := 0 }, { name := "BIG_ENDIAN", type := .boolean, accessFlags := 26, slot := 1, constantValue := 0 }, { name := "LOG2_ARRAY_BOOLEAN_INDEX_SCALE", type := .int, accessFlags := 25, slot := 2, constantValue := 0 }, { name := "LOG2_ARRAY_BYTE_INDEX_SCALE", type := .int, accessFlags := 25, slot := 3, constantValue := 0 }, { name := "LOG2_ARRAY_CHAR_INDEX_SCALE", type := .int, accessFlags := 25, slot := 4, constantValue := 0 }, { name := "LOG2_ARRAY_SHORT_INDEX_SCALE", type := .int, accessFlags := 25, slot := 5, constantValue := 0 }, { name := "LOG2_ARRAY_INT_INDEX_SCALE", type := .int, accessFlags := 25, slot := 6, constantValue := 0 }, { name := "LOG2_ARRAY_LONG_INDEX_SCALE", type := .int, accessFlags := 25, slot := 7, constantValue := 0 }, { name := "LOG2_ARRAY_FLOAT_INDEX_SCALE", type := .int, accessFlags := 25, slot := 8, constantValue := 0 }, { name := "LOG2_ARRAY_DOUBLE_INDEX_SCALE", type := .int, accessFlags := 25, slot := 9, constantValue := 0 }, { name := "LOG2_BYTE_BIT_SIZE", type := .int, accessFlags := 26, slot := 10, constantValue := 0 }, { name := "T_BOOLEAN", type := .int, accessFlags := 25, slot := 11, constantValue := 0 }, { name := "T_CHAR", type := .int, accessFlags := 25, slot := 12, constantValue := 0 }, { name := "T_FLOAT", type := .int, accessFlags := 25, slot := 13, constantValue := 0 }, { name := "T_DOUBLE", type := .int, accessFlags := 25, slot := 14, constantValue := 0 }, { name := "T_BYTE", type := .int, accessFlags := 25, slot := 15, constantValue := 0 }, { name := "T_SHORT", type := .int, accessFlags := 25, slot := 16, constantValue := 0 }, { name := "T_INT", type := .int, accessFlags := 25, slot := 17, constantValue := 0 }, { name := "T_LONG", type := .int, accessFlags := 25, slot := 18, constantValue := 0 }, { name := "JLA", type := (.object "jdk/internal/access/JavaLangAccess"), accessFlags := 26, slot := 19, constantValue := 0 }, { name := "SOFT_MAX_ARRAY_LENGTH", type := .int, accessFlags := 25, slot := 20, constantValue := 0 }]
  methods := #[k12m0]
  instanceTypes := #[]
  staticTypes := #[(.object "jdk/internal/misc/Unsafe"), .boolean, .int, .int, .int, .int, .int, .int, .int, .int, .int, .int, .int, .int, .int, .int, .int, .int, .int, (.object "jdk/internal/access/JavaLangAccess"), .int]
  resolved := Array.replicate 378 none
  statics := none }

def pool13 : Array CpInfo := pool [(1, u "java/lang/Cloneable"), (0, .class_ 1), (0, u "java/lang/Object"), (0, .class_ 3)] 3

/-- java/lang/Cloneable -/
def k13 : Class := { plain "java/lang/Cloneable" (some 0) with
  accessFlags := 1537
  interfaces := #[]
  cf := some (fileOf pool13 2 #[] #[] 1537 4 #[] #[])
  fields := #[]
  methods := #[]
  instanceTypes := #[]
  staticTypes := #[]
  resolved := Array.replicate 8 none
  statics := none }

/-- the primitive byte -/
def k14 : Class := { plain "byte" none with kind := .primitive 'B', accessFlags := 0x411 }
/-- [B -/
def k15 : Class := { plain "[B" (some 0) with kind := .array 14 .byte, interfaces := #[13, 2], accessFlags := 1041 }

/-- the primitive char -/
def k16 : Class := { plain "char" none with kind := .primitive 'C', accessFlags := 0x411 }
/-- [C -/
def k17 : Class := { plain "[C" (some 0) with kind := .array 16 .char, interfaces := #[13, 2], accessFlags := 1041 }

/-- the primitive int -/
def k18 : Class := { plain "int" none with kind := .primitive 'I', accessFlags := 0x411 }
/-- [I -/
def k19 : Class := { plain "[I" (some 0) with kind := .array 18 .int, interfaces := #[13, 2], accessFlags := 1041 }

def heap : Heap := #[{ cls := 7, slots := #[.long 0, .int 1, .null, .int 0, .null, .int 0, .int 0], vm := .statics 7 },
  { cls := 11, slots := #[.null, .null, .null], vm := .statics 11 }]
def classes : Array Class := #[k0, k1, k2, k3, k4, k5, k6, k7, k8, k9, k10, k11, k12, k13, k14, k15, k16, k17, k18, k19]
def interned : List (Array UInt16 × Addr) := []
def slotsUsed : Nat := 10
def theMethod : MethodId := ⟨1, 3⟩
def args0 : Array Value := #[.int 5, .int 1, .int 2, .int 3]
def aboutOver (below : List Frame) : State where
  vm := { classes := classes, interned := interned.toArray }
  heap := heap
  slotsUsed := slotsUsed
  threads := #[{ frames := .invoking theMethod args0 :: below }]
def below0 : List Frame := [.native { method := ⟨0, 0⟩, args := #[] }]
def about1 : State := aboutOver below0
def p0 : Program := .bare "" "" ""
def e0 : Env := launch0.env 0 0 0
theorem w_frames : about1.frames = Frame.invoking theMethod args0 :: below0 := rfl
set_option maxRecDepth 65536 in
theorem w_args : argsFit about1.vm theMethod args0 = true := by decide +kernel
set_option maxRecDepth 65536 in
theorem w_heap : heapFits about1 = true := by decide +kernel
set_option maxRecDepth 65536 in
theorem w_runnable : about1.curStatus? = some .runnable := by decide +kernel
set_option maxRecDepth 65536 in
theorem w_alone : about1.alone = true := by decide +kernel
set_option maxRecDepth 65536 in
theorem w_named : about1.methodNamed? x = some theMethod := by decide +kernel
set_option maxRecDepth 65536 in
theorem w_hears : about1.hears theMethod below0 = true := by decide +kernel
set_option maxRecDepth 65536 in
theorem w_ripe : about1.ripe theMethod args0 below0 = true := by decide +kernel
theorem w_running : about1.status = .running := rfl
set_option maxRecDepth 65536 in
theorem w_room : about1.hasRoom e0.platform room_1 = true :=
  launch0.hasRoom_least _ room_1 (by decide +kernel) (by decide +kernel) (by decide +kernel) (by decide +kernel) (by decide +kernel) (by decide +kernel)
theorem allAtoms_all (ts : List Jvm.Cond) (a : Array Jvm.Value) (st : Jvm.State) : (allAtoms ts).before a st = ts.all (fun c => c.before a st) := by
  induction ts with
  | nil => rfl
  | cons c t ih =>
    show (Jvm.Cond.and c (allAtoms t)).before a st = _
    rw [Jvm.Cond.before_and, ih, List.all_cons]
def words1 : List Jvm.Cond := Jvm.Cond.code x code maxLocals ret :: tables_1
/-- a 'code' word, met by the world's own term for the bytes: nothing is compared byte by byte -/
theorem code_word {y : MethodName} {bytes : ByteArray} {mx : Nat} {rt : Option FieldType} {a : Array Value} {s : State} {m : MethodId} {meth : Method} {c : Code} (h1 : s.methodNamed? y = some m) (h2 : s.vm.method? m = some meth) (h3 : meth.code = some c) (h4 : c.code = bytes)
    (h5 : (c.maxLocals == mx && c.exceptionTable.isEmpty && decide (c.maxStack ≤ mostOperands) && decide (meth.sig.returnType = rt) && !meth.locks && decide (parseMethodDescriptor y.desc = some meth.sig)) = true) : (Jvm.Cond.code y bytes mx rt).before a s = true := by
  simp only [Bool.and_eq_true, beq_iff_eq, Bool.not_eq_true', decide_eq_true_eq] at h5
  obtain ⟨⟨⟨⟨⟨g1, g2⟩, g3⟩, g4⟩, g5⟩, g6⟩ := h5
  simp [Cond.before, Cond.holds, Cond.value, h1, h2, h3, h4, g1, g2, g3, g4, g5, g6]
def isCode : Jvm.Cond → Bool
  | .code _ _ _ _ => true
  | _ => false
theorem all_split {L : List Jvm.Cond} {P : Jvm.Cond → Bool} (h1 : L.all (fun c => isCode c || P c) = true) (h2 : ∀ c ∈ L.filter isCode, P c = true) : L.all P = true := by
  refine List.all_eq_true.mpr fun c hc => ?_
  have h := List.all_eq_true.mp h1 c hc
  rcases Bool.eq_false_or_eq_true (isCode c) with hi | hi
  · exact h2 c (List.mem_filter.mpr ⟨hc, hi⟩)
  · simpa [hi] using h
set_option maxRecDepth 65536 in
theorem w_c0 : (Jvm.Cond.code x code maxLocals ret).before args0 about1 = true := code_word (m := ⟨1, 3⟩) (meth := k1m3) (c := k1c3) (by decide +kernel) rfl rfl rfl (by decide +kernel)
set_option maxRecDepth 65536 in
theorem w_c1 : (Jvm.Cond.code ({ cls := "com/example/keelson/keelson/module/SystemBundleNamedPinLaw", name := "own", desc := "()[C" } : Jvm.MethodName) method_3_code (0 : Nat) (Option.some (Jvm.ClassFile.FieldType.array Jvm.ClassFile.FieldType.char))).before args0 about1 = true := code_word (m := ⟨1, 2⟩) (meth := k1m2) (c := k1c2) (by decide +kernel) rfl rfl rfl (by decide +kernel)
set_option maxRecDepth 65536 in
theorem w_c2 : (Jvm.Cond.code ({ cls := "java/lang/String", name := "<init>", desc := "([C)V" } : Jvm.MethodName) jdk_42_method_3_code (2 : Nat) (Option.none : Option Jvm.ClassFile.FieldType)).before args0 about1 = true := code_word (m := ⟨7, 1⟩) (meth := k7m1) (c := k7c1) (by decide +kernel) rfl rfl rfl (by decide +kernel)
set_option maxRecDepth 65536 in
theorem w_c3 : (Jvm.Cond.code ({ cls := "java/lang/String", name := "<init>", desc := "([CIILjava/lang/Void;)V" } : Jvm.MethodName) jdk_42_method_149_code (6 : Nat) (Option.none : Option Jvm.ClassFile.FieldType)).before args0 about1 = true := code_word (m := ⟨7, 4⟩) (meth := k7m4) (c := k7c4) (by decide +kernel) rfl rfl rfl (by decide +kernel)
set_option maxRecDepth 65536 in
theorem w_c4 : (Jvm.Cond.code ({ cls := "java/lang/Object", name := "<init>", desc := "()V" } : Jvm.MethodName) object_method_1_code (1 : Nat) (Option.none : Option Jvm.ClassFile.FieldType)).before args0 about1 = true := code_word (m := ⟨0, 0⟩) (meth := k0m0) (c := k0c0) (by decide +kernel) rfl rfl rfl (by decide +kernel)
set_option maxRecDepth 65536 in
theorem w_c5 : (Jvm.Cond.code ({ cls := "java/lang/StringUTF16", name := "compress", desc := "([CII)[B" } : Jvm.MethodName) jdk_52_method_16_code (6 : Nat) (Option.some (Jvm.ClassFile.FieldType.array Jvm.ClassFile.FieldType.byte))).before args0 about1 = true := code_word (m := ⟨8, 2⟩) (meth := k8m2) (c := k8c2) (by decide +kernel) rfl rfl rfl (by decide +kernel)
set_option maxRecDepth 65536 in
theorem w_c6 : (Jvm.Cond.code ({ cls := "java/lang/StringUTF16", name := "compress", desc := "([CI[BII)I" } : Jvm.MethodName) jdk_52_method_21_code (7 : Nat) (Option.some Jvm.ClassFile.FieldType.int)).before args0 about1 = true := code_word (m := ⟨8, 3⟩) (meth := k8m3) (c := k8c3) (by decide +kernel) rfl rfl rfl (by decide +kernel)
set_option maxRecDepth 65536 in
theorem w_c7 : (Jvm.Cond.code ({ cls := "java/lang/StringUTF16", name := "coderFromArrayLen", desc := "([BI)B" } : Jvm.MethodName) jdk_52_method_15_code (2 : Nat) (Option.some Jvm.ClassFile.FieldType.byte)).before args0 about1 = true := code_word (m := ⟨8, 1⟩) (meth := k8m1) (c := k8c1) (by decide +kernel) rfl rfl rfl (by decide +kernel)
set_option maxRecDepth 65536 in
theorem w_c8 : (Jvm.Cond.code ({ cls := "com/example/keelson/keelson/module/SystemBundle", name := "named", desc := "(Ljava/lang/String;)Z" } : Jvm.MethodName) prog_101_method_2_code (1 : Nat) (Option.some Jvm.ClassFile.FieldType.boolean)).before args0 about1 = true := code_word (m := ⟨9, 1⟩) (meth := k9m1) (c := k9c1) (by decide +kernel) rfl rfl rfl (by decide +kernel)
set_option maxRecDepth 65536 in
theorem w_c9 : (Jvm.Cond.code ({ cls := "java/lang/String", name := "equals", desc := "(Ljava/lang/Object;)Z" } : Jvm.MethodName) jdk_42_method_66_code (3 : Nat) (Option.some Jvm.ClassFile.FieldType.boolean)).before args0 about1 = true := code_word (m := ⟨7, 2⟩) (meth := k7m2) (c := k7c2) (by decide +kernel) rfl rfl rfl (by decide +kernel)
set_option maxRecDepth 65536 in
theorem w_c10 : (Jvm.Cond.code ({ cls := "java/lang/StringLatin1", name := "equals", desc := "([B[B)Z" } : Jvm.MethodName) jdk_43_method_13_code (3 : Nat) (Option.some Jvm.ClassFile.FieldType.boolean)).before args0 about1 = true := code_word (m := ⟨10, 2⟩) (meth := k10m2) (c := k10c2) (by decide +kernel) rfl rfl rfl (by decide +kernel)
set_option maxRecDepth 65536 in
theorem w_c11 : (Jvm.Cond.code ({ cls := "com/example/keelson/keelson/module/SystemBundleNamedPinLaw", name := "alias", desc := "()[C" } : Jvm.MethodName) method_2_code (0 : Nat) (Option.some (Jvm.ClassFile.FieldType.array Jvm.ClassFile.FieldType.char))).before args0 about1 = true := code_word (m := ⟨1, 1⟩) (meth := k1m1) (c := k1c1) (by decide +kernel) rfl rfl rfl (by decide +kernel)
set_option maxRecDepth 65536 in
theorem w_c12 : (Jvm.Cond.code ({ cls := "java/lang/String", name := "valueOf", desc := "(C)Ljava/lang/String;" } : Jvm.MethodName) jdk_42_method_139_code (1 : Nat) (Option.some (Jvm.ClassFile.FieldType.object "java/lang/String"))).before args0 about1 = true := code_word (m := ⟨7, 3⟩) (meth := k7m3) (c := k7c3) (by decide +kernel) rfl rfl rfl (by decide +kernel)
set_option maxRecDepth 65536 in
theorem w_c13 : (Jvm.Cond.code ({ cls := "java/lang/StringLatin1", name := "canEncode", desc := "(C)Z" } : Jvm.MethodName) jdk_43_method_3_code (1 : Nat) (Option.some Jvm.ClassFile.FieldType.boolean)).before args0 about1 = true := code_word (m := ⟨10, 1⟩) (meth := k10m1) (c := k10c1) (by decide +kernel) rfl rfl rfl (by decide +kernel)
set_option maxRecDepth 65536 in
theorem w_c14 : (Jvm.Cond.code ({ cls := "java/lang/StringLatin1", name := "toBytes", desc := "(C)[B" } : Jvm.MethodName) jdk_43_method_46_code (1 : Nat) (Option.some (Jvm.ClassFile.FieldType.array Jvm.ClassFile.FieldType.byte))).before args0 about1 = true := code_word (m := ⟨10, 3⟩) (meth := k10m3) (c := k10c3) (by decide +kernel) rfl rfl rfl (by decide +kernel)
set_option maxRecDepth 65536 in
theorem w_c15 : (Jvm.Cond.code ({ cls := "java/lang/String", name := "<init>", desc := "([BB)V" } : Jvm.MethodName) jdk_42_method_151_code (3 : Nat) (Option.none : Option Jvm.ClassFile.FieldType)).before args0 about1 = true := code_word (m := ⟨7, 5⟩) (meth := k7m5) (c := k7c5) (by decide +kernel) rfl rfl rfl (by decide +kernel)
def codes1 : List Jvm.Cond := [Jvm.Cond.code x code maxLocals ret, Jvm.Cond.code ({ cls := "com/example/keelson/keelson/module/SystemBundleNamedPinLaw", name := "own", desc := "()[C" } : Jvm.MethodName) method_3_code (0 : Nat) (Option.some (Jvm.ClassFile.FieldType.array Jvm.ClassFile.FieldType.char)), Jvm.Cond.code ({ cls := "java/lang/String", name := "<init>", desc := "([C)V" } : Jvm.MethodName) jdk_42_method_3_code (2 : Nat) (Option.none : Option Jvm.ClassFile.FieldType), Jvm.Cond.code ({ cls := "java/lang/String", name := "<init>", desc := "([CIILjava/lang/Void;)V" } : Jvm.MethodName) jdk_42_method_149_code (6 : Nat) (Option.none : Option Jvm.ClassFile.FieldType), Jvm.Cond.code ({ cls := "java/lang/Object", name := "<init>", desc := "()V" } : Jvm.MethodName) object_method_1_code (1 : Nat) (Option.none : Option Jvm.ClassFile.FieldType), Jvm.Cond.code ({ cls := "java/lang/StringUTF16", name := "compress", desc := "([CII)[B" } : Jvm.MethodName) jdk_52_method_16_code (6 : Nat) (Option.some (Jvm.ClassFile.FieldType.array Jvm.ClassFile.FieldType.byte)), Jvm.Cond.code ({ cls := "java/lang/StringUTF16", name := "compress", desc := "([CI[BII)I" } : Jvm.MethodName) jdk_52_method_21_code (7 : Nat) (Option.some Jvm.ClassFile.FieldType.int), Jvm.Cond.code ({ cls := "java/lang/StringUTF16", name := "coderFromArrayLen", desc := "([BI)B" } : Jvm.MethodName) jdk_52_method_15_code (2 : Nat) (Option.some Jvm.ClassFile.FieldType.byte), Jvm.Cond.code ({ cls := "com/example/keelson/keelson/module/SystemBundle", name := "named", desc := "(Ljava/lang/String;)Z" } : Jvm.MethodName) prog_101_method_2_code (1 : Nat) (Option.some Jvm.ClassFile.FieldType.boolean), Jvm.Cond.code ({ cls := "java/lang/String", name := "equals", desc := "(Ljava/lang/Object;)Z" } : Jvm.MethodName) jdk_42_method_66_code (3 : Nat) (Option.some Jvm.ClassFile.FieldType.boolean), Jvm.Cond.code ({ cls := "java/lang/StringLatin1", name := "equals", desc := "([B[B)Z" } : Jvm.MethodName) jdk_43_method_13_code (3 : Nat) (Option.some Jvm.ClassFile.FieldType.boolean), Jvm.Cond.code ({ cls := "com/example/keelson/keelson/module/SystemBundleNamedPinLaw", name := "alias", desc := "()[C" } : Jvm.MethodName) method_2_code (0 : Nat) (Option.some (Jvm.ClassFile.FieldType.array Jvm.ClassFile.FieldType.char)), Jvm.Cond.code ({ cls := "java/lang/String", name := "valueOf", desc := "(C)Ljava/lang/String;" } : Jvm.MethodName) jdk_42_method_139_code (1 : Nat) (Option.some (Jvm.ClassFile.FieldType.object "java/lang/String")), Jvm.Cond.code ({ cls := "java/lang/StringLatin1", name := "canEncode", desc := "(C)Z" } : Jvm.MethodName) jdk_43_method_3_code (1 : Nat) (Option.some Jvm.ClassFile.FieldType.boolean), Jvm.Cond.code ({ cls := "java/lang/StringLatin1", name := "toBytes", desc := "(C)[B" } : Jvm.MethodName) jdk_43_method_46_code (1 : Nat) (Option.some (Jvm.ClassFile.FieldType.array Jvm.ClassFile.FieldType.byte)), Jvm.Cond.code ({ cls := "java/lang/String", name := "<init>", desc := "([BB)V" } : Jvm.MethodName) jdk_42_method_151_code (3 : Nat) (Option.none : Option Jvm.ClassFile.FieldType)]
set_option maxRecDepth 65536 in
theorem codes_eq : words1.filter isCode = codes1 := rfl
theorem w_codes : ∀ c ∈ words1.filter isCode, c.before args0 about1 = true := by
  rw [codes_eq]
  intro c hc
  simp only [codes1, List.mem_cons, List.not_mem_nil, or_false] at hc
  rcases hc with rfl | rfl | rfl | rfl | rfl | rfl | rfl | rfl | rfl | rfl | rfl | rfl | rfl | rfl | rfl | rfl
  · exact w_c0
  · exact w_c1
  · exact w_c2
  · exact w_c3
  · exact w_c4
  · exact w_c5
  · exact w_c6
  · exact w_c7
  · exact w_c8
  · exact w_c9
  · exact w_c10
  · exact w_c11
  · exact w_c12
  · exact w_c13
  · exact w_c14
  · exact w_c15
set_option maxRecDepth 65536 in
theorem w_t1 : (words1.take 24).all (fun c => isCode c || c.before args0 about1) = true := by decide +kernel
set_option maxRecDepth 65536 in
theorem w_t2 : ((words1.drop 24).take 24).all (fun c => isCode c || c.before args0 about1) = true := by decide +kernel
set_option maxRecDepth 65536 in
theorem w_t3 : ((words1.drop 24).drop 24).all (fun c => isCode c || c.before args0 about1) = true := by decide +kernel
theorem w_tables : (allAtoms (Jvm.Cond.code x code maxLocals ret :: tables_1)).before args0 about1 = true := by
  rw [allAtoms_all]
  show words1.all (fun c => c.before args0 about1) = true
  refine all_split ?_ w_codes
  rw [← List.take_append_drop 24 words1, List.all_append, w_t1, ← List.take_append_drop 24 (words1.drop 24), List.all_append, w_t2, w_t3]
  rfl
set_option maxRecDepth 65536 in
theorem w_rest : rest_1_c.before args0 about1 = true := by decide +kernel
set_option maxRecDepth 65536 in
theorem w_case : (Jvm.Cond.and given_1 narrow_1).before args0 about1 = true := by decide +kernel
set_option maxRecDepth 65536 in
theorem w_consts : constsHeld consts_1 about1 := Jvm.Lit.constsHeldB_iff.mp (by decide +kernel)
theorem w_applies : (headSpec (Jvm.Cond.code x code maxLocals ret :: tables_1) room_1).applies x e0.platform about1 = true :=
  (Spec.applies_iff w_frames).mpr ⟨w_running, w_runnable, w_alone, w_named, w_hears, w_ripe, w_room, w_tables⟩
theorem atStart : AtStart classFile x code maxLocals ret World_1 tables_1 room_1 Calls_1 rest_1 Pre_1 launch0 p0 e0 about1 theMethod args0 below0 :=
  ⟨lists_1, trivial, launch0.admits_env _ _ _, launch0.least_env, fairChoices_fair.cas, fairChoices_fair.clock, w_frames, w_args, w_heap, w_applies, ⟨w_consts, trivial⟩, w_rest, w_case⟩
end start1
theorem witness_1 : WitnessClaimed_1 := ⟨start1.p0, start1.e0, start1.about1, start1.theMethod, start1.args0, start1.below0, start1.atStart⟩
end Jvm.Pilot.@@N@@
