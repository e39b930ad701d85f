import JvmDerived
import JvmDerived.Pilot.@@N@@Statement
import JvmDerived.Pilot.@@N@@Code
set_option linter.unusedVariables false
set_option linter.unusedSimpArgs false
namespace Jvm.OwnK
open Sem ClassFile Op Lib Bundle Jvm.Stand Jvm.Free Jvm.LawKit Jvm.RoadKit
/-! A small calculus of runs over the library's Stand, own text. Run: from any state that stands with heap h at pc, locals L, stack S, the run ends well. -/
abbrev Kx : Type := Program × Launch × Env × Room × State × MethodId × Array Value × List Frame × Method × Code
abbrev Kx.p (K : Kx) : Program := K.1
abbrev Kx.l (K : Kx) : Launch := K.2.1
abbrev Kx.e (K : Kx) : Env := K.2.2.1
abbrev Kx.R (K : Kx) : Room := K.2.2.2.1
abbrev Kx.s (K : Kx) : State := K.2.2.2.2.1
abbrev Kx.m (K : Kx) : MethodId := K.2.2.2.2.2.1
abbrev Kx.as (K : Kx) : Array Value := K.2.2.2.2.2.2.1
abbrev Kx.bl (K : Kx) : List Frame := K.2.2.2.2.2.2.2.1
abbrev Kx.me (K : Kx) : Method := K.2.2.2.2.2.2.2.2.1
abbrev Kx.c (K : Kx) : Code := K.2.2.2.2.2.2.2.2.2
/-- the walk stands at T, its heap h, cl cells and sl slots made; W: places that no booked constant holds -/
def St (Z : State) (EL : List (String × Nat)) (nI : Bool) (K : Kx) (W : List Addr) (h : Heap) (cl sl : Nat) (T : State) : Prop :=
  ∃ (vm0 : Vm) (k0 : Nat) (locs : List Loc), Stand K.p K.l K.e K.R (K.s.setVm vm0) K.m K.as K.bl K.me K.c T locs cl sl ∧ K.s.Since vm0 k0 ∧ k0 ≤ h.size ∧ Z.Warmed39 vm0 ∧ CHr Z EL K.s.vm K.s.heap vm0 h ∧ (∀ x ∈ W, x < h.size ∧ Safe Z EL vm0 h x) ∧ T.heap = h ∧ Fr Z.heap.size locs ∧ (nI = true → K.s.WarmedH vm0) ∧ Ext Z.heap h
def Go (Z : State) (EL : List (String × Nat)) (nI : Bool) (K : Kx) (Q : Option Value → Heap → Prop) (T : State) (g : JFrame) : Prop :=
  ∃ s₂ v L, Steps K.p.tables K.e K.bl (T.setTop g) s₂ ∧ s₂.status = .running ∧ Ended s₂ K.bl (.returned v) ∧ Q v s₂.heap ∧ Fr Z.heap.size L ∧ CHr Z EL K.s.vm K.s.heap s₂.vm s₂.heap ∧ ReturnedEndW K.s (.returned v) s₂ L K.R.cells K.R.slots ∧ (nI = true → K.s.WarmedH s₂.vm) ∧ Ext Z.heap s₂.heap
def Run (Z : State) (EL : List (String × Nat)) (nI : Bool) (K : Kx) (Q : Option Value → Heap → Prop) (W : List Addr) (h : Heap) (cl sl pc : Nat) (L : Array Slot) (S : List Value) : Prop :=
  ∀ T, St Z EL nI K W h cl sl T → Go Z EL nI K Q T (mkF K.m pc L S)
/-- what is known of the invocation -/
def Ok (Z : State) (EL : List (String × Nat)) (a0 : Array Value) (l : Launch) (own nm : String) (bytes : ByteArray) (ml : Nat) (ret : Option FieldType) (R : Room) (K : Kx) : Prop :=
  K.p.tables.exec = Jvm.exec ∧ K.l = l ∧ K.R = R ∧ K.c.code = bytes ∧ K.c.maxLocals = ml ∧ K.me.sig.returnType = ret ∧ K.me.locks = false ∧ K.me.name = nm ∧ K.s.vm.findClass own = some K.m.cls ∧ EW Z a0 EL
/-- a place that a walk may write -/
def Sf (Z : State) (EL : List (String × Nat)) (W : List Addr) (h : Heap) (a : Addr) : Prop := ∀ vm, Z.Warmed39 vm → (∀ x ∈ W, x < h.size ∧ Safe Z EL vm h x) → Safe Z EL vm h a
section Rules
variable {Z : State} {EL : List (String × Nat)} {nI : Bool} {a0 : Array Value} {l : Launch} {own nm : String} {bytes : ByteArray} {ml : Nat} {ret : Option FieldType} {R : Room} {K : Kx} {Q : Option Value → Heap → Prop} {W W' : List Addr} {h : Heap} {cl sl cl' sl' pc pc' : Nat} {L L' : Array Slot} {S S' : List Value} {a : Addr} {C : String} {ty : FieldType}
theorem sfW (hm : a ∈ W) : Sf Z EL W h a := fun _ _ q => (q a hm).2
theorem sfE (E : Exa Z h a C) (h1 : C ≠ "java/lang/String") (h2 : C ≠ "[B") : Sf Z EL W h a := fun _ hZ _ => Safe.exa hZ.alike E h1 h2
theorem sfA {k : ClassId} {z : Int32} {vs : List Value} {dv : Value} (A : Arv Z h a k ty z vs dv) (ht : ty ≠ .byte) : Sf Z EL W h a := fun _ hZ _ => Safe.arv hZ.alike A ht
theorem sfR {c : Cell} (A : Arr Z h a c ty) (ht : ty ≠ .byte) : Sf Z EL W h a := fun _ hZ _ => Safe.arr hZ.alike A ht
theorem sfN : Sf Z [] W h a := fun _ _ _ B => by obtain ⟨p, hp, -⟩ := B; cases hp
/-- fewer places -/
theorem Run.less (k : Run Z EL nI K Q W' h cl sl pc L S) (hs : ∀ x ∈ W', x ∈ W) : Run Z EL nI K Q W h cl sl pc L S := fun T X => by
  obtain ⟨vm0, k0, locs, X1, X2, X3, X4, X5, X6, X7⟩ := X
  exact k T ⟨vm0, k0, locs, X1, X2, X3, X4, X5, fun x hx => X6 x (hs x hx), X7⟩
/-- more room -/
theorem Run.mono (k : Run Z EL nI K Q W h cl' sl' pc L S) (h1 : cl ≤ cl') (h2 : sl ≤ sl') : Run Z EL nI K Q W h cl sl pc L S := fun T X => by
  obtain ⟨vm0, k0, locs, X1, X7⟩ := X
  exact k T ⟨vm0, k0, locs, X1.mono h1 h2, X7⟩
/-- nothing that stood at the start was written -/
theorem Run.old (k : Ext Z.heap h → Run Z EL nI K Q W h cl sl pc L S) : Run Z EL nI K Q W h cl sl pc L S := fun T X => by
  obtain ⟨vm0, k0, locs, X1, X2, X3, X4, X5, X6, X7, X8, X9, X10⟩ := id X
  exact k X10 T X
/-- a step that leaves the heap -/
theorem Run.same (hK : Ok Z EL a0 l own nm bytes ml ret R K)
    (f : ∀ T vm0 locs, Stand K.p K.l K.e K.R (K.s.setVm vm0) K.m K.as K.bl K.me K.c T locs cl sl → Z.Warmed39 (K.s.setVm vm0).vm → (K.s.setVm vm0).vm.findClass own = some K.m.cls → T.heap = h →
      ∃ T', Stand K.p K.l K.e K.R (K.s.setVm vm0) K.m K.as K.bl K.me K.c T' locs cl sl ∧ T'.heap = h ∧ ∀ t, Steps K.p.tables K.e K.bl (T'.setTop (mkF K.m pc' L' S')) t → Steps K.p.tables K.e K.bl (T.setTop (mkF K.m pc L S)) t)
    (k : Run Z EL nI K Q W h cl sl pc' L' S') : Run Z EL nI K Q W h cl sl pc L S := fun T X => by
  obtain ⟨vm0, k0, locs, X1, X2, X3, X4, X5, X6, X7, X8⟩ := X
  obtain ⟨T', Y, eY, st⟩ := f T vm0 locs X1 X4 (by rw [show (K.s.setVm vm0).vm = vm0 from rfl, X2.1.alike.findClass]; exact hK.2.2.2.2.2.2.2.2.1) X7
  obtain ⟨s2, v, Lo, g, r⟩ := k T' ⟨vm0, k0, locs, Y, X2, X3, X4, X5, X6, eY, X8⟩
  exact ⟨s2, v, Lo, st _ g, r⟩
/-- a step that moves frames alone -/
theorem Run.step (hK : Ok Z EL a0 l own nm bytes ml ret R K)
    (f : ∀ T, At T K.m K.c K.bl → ∀ t, Steps K.p.tables K.e K.bl (T.setTop (mkF K.m pc' L' S')) t → Steps K.p.tables K.e K.bl (T.setTop (mkF K.m pc L S)) t)
    (k : Run Z EL nI K Q W h cl sl pc' L' S') : Run Z EL nI K Q W h cl sl pc L S :=
  Run.same hK (fun T vm0 locs X _ _ e => ⟨T, X, e, f T X.here⟩) k
/-- a step that makes cells -/
theorem Run.grow (hK : Ok Z EL a0 l own nm bytes ml ret R K) {P : Heap → Prop}
    (f : ∀ T vm0 locs, Stand K.p K.l K.e K.R (K.s.setVm vm0) K.m K.as K.bl K.me K.c T locs cl sl → Z.Warmed39 (K.s.setVm vm0).vm → (K.s.setVm vm0).vm.findClass own = some K.m.cls → T.heap = h →
      ∃ T' h', Stand K.p K.l K.e K.R (K.s.setVm vm0) K.m K.as K.bl K.me K.c T' locs cl' sl' ∧ T'.heap = h' ∧ Ext h h' ∧ h.size < h'.size ∧ P h' ∧ ∀ t, Steps K.p.tables K.e K.bl (T'.setTop (mkF K.m pc' L' S')) t → Steps K.p.tables K.e K.bl (T.setTop (mkF K.m pc L S)) t)
    (k : ∀ h', Ext h h' → P h' → Run Z EL nI K Q (h.size :: W) h' cl' sl' pc' L' S') : Run Z EL nI K Q W h cl sl pc L S := fun T X => by
  obtain ⟨vm0, k0, locs, X1, X2, X3, X4, X5, X6, X7, X8, X9, X10⟩ := X
  obtain ⟨T', h', Y, eY, E, hsz, hP, st⟩ := f T vm0 locs X1 X4 (by rw [show (K.s.setVm vm0).vm = vm0 from rfl, X2.1.alike.findClass]; exact hK.2.2.2.2.2.2.2.2.1) X7
  obtain ⟨s2, v, Lo, g, r⟩ := k h' E hP T' ⟨vm0, k0, locs, Y, X2, Nat.le_trans X3 E.1, X4, X5.trans (CHr.ext E X5.1), fun x hx => by
    rcases List.mem_cons.mp hx with rfl | hx
    · exact ⟨hsz, Safe.ext E X5.1 (Safe.new (Nat.le_refl _))⟩
    · exact ⟨Nat.lt_of_lt_of_le (X6 x hx).1 E.1, Safe.ext E X5.1 (X6 x hx).2⟩, eY, X8, X9, Nat.le_trans X10.1 E.1, fun x c q => E.2 x c (X10.2 x c q)⟩
  exact ⟨s2, v, Lo, st _ g, r⟩
/-- a step that writes one place -/
theorem Run.write (hK : Ok Z EL a0 l own nm bytes ml ret R K) {i : Nat} {w : Value} (ha : Z.heap.size ≤ a) (hs : Sf Z EL W h a)
    (f : ∀ T vm0 locs, Stand K.p K.l K.e K.R (K.s.setVm vm0) K.m K.as K.bl K.me K.c T locs cl sl → Z.Warmed39 (K.s.setVm vm0).vm → (K.s.setVm vm0).vm.findClass own = some K.m.cls → T.heap = h →
      ∃ T' h', Stand K.p K.l K.e K.R (K.s.setVm vm0) K.m K.as K.bl K.me K.c T' (locs ++ [⟨a, i⟩]) cl sl ∧ T'.heap = h' ∧ Wr h h' a i w ∧ ∀ t, Steps K.p.tables K.e K.bl (T'.setTop (mkF K.m pc' L' S')) t → Steps K.p.tables K.e K.bl (T.setTop (mkF K.m pc L S)) t)
    (k : ∀ h', Wr h h' a i w → Run Z EL nI K Q W h' cl sl pc' L' S') : Run Z EL nI K Q W h cl sl pc L S := fun T X => by
  obtain ⟨vm0, k0, locs, X1, X2, X3, X4, X5, X6, X7, X8, X9, X10⟩ := X
  obtain ⟨T', h', Y, eY, Wt, st⟩ := f T vm0 locs X1 X4 (by rw [show (K.s.setVm vm0).vm = vm0 from rfl, X2.1.alike.findClass]; exact hK.2.2.2.2.2.2.2.2.1) X7
  have hsz := Wt.size
  have sa := hs vm0 X4 X6
  obtain ⟨s2, v, Lo, g, r⟩ := k h' Wt T' ⟨vm0, k0, _, Y, X2, hsz ▸ X3, X4, X5.trans (CHr.wr Wt sa X5.1), fun x hx => ⟨hsz ▸ (X6 x hx).1, Safe.wr Wt sa X5.1 (X6 x hx).2⟩, eY, Fr.snoc Y X8 ha, X9, (Old.wr (Z := Z) (n0 := Z.heap.size) ⟨rfl, X10⟩ Wt ha).2⟩
  exact ⟨s2, v, Lo, st _ g, r⟩
end Rules
/-- **A CALLEE, PAID**: whatever pays it -/
def Cal (Z : State) (EL : List (String × Nat)) (nI : Bool) (a0 : Array Value) (l : Launch) (R : Room) (y : MethodName) (len Wt : Nat) (as' : Array Value) (h : Heap) (W : List Addr) (kc ks : Nat) (Qy : Option Value → Heap → Prop) : Prop :=
  ∀ (p : Program) (e : Env) (bl : List Frame) (s : State) (as : Array Value) (vm0 : Vm), Z.Warmed39 vm0 → EW Z a0 EL → CHv Z EL vm0 h → (∀ x ∈ W, x < h.size ∧ Safe Z EL vm0 h x) → Ext Z.heap h →
    BackS l R p e bl (s.setVm vm0) as y len Wt (fun A a => a = as' ∧ A.U.heap = h ∧ A.cells + kc ≤ R.cells ∧ A.slots + ks ≤ R.slots)
      (fun A _ v B => ∃ Lo, Qy v B.U.heap ∧ Fr Z.heap.size Lo ∧ B.locs = A.locs ++ Lo ∧ B.cells = A.cells + kc ∧ B.slots = A.slots + ks ∧ CHr Z EL vm0 h B.U.vm B.U.heap ∧ (nI = true → (s.setVm vm0).WarmedH B.U.vm) ∧ Ext Z.heap B.U.heap)
/-- an own contract -/
def Ctr (Z : State) (EL : List (String × Nat)) (nI : Bool) (l : Launch) (ws : List Jvm.Cond) (y : MethodName) (bytes : ByteArray) (ml : Nat) (ret : Option FieldType) (rm : Room) (as' : Array Value) (h : Heap) (W : List Addr) (Qy : Option Value → Heap → Prop) : Prop :=
  MetFree l y (head1 (Jvm.Cond.code y bytes ml ret :: ws) rm) (fun a U => a = as' ∧ Z.Warmed39 U.vm ∧ U.heap = h ∧ CHv Z EL U.vm h ∧ (∀ x ∈ W, x < h.size ∧ Safe Z EL U.vm h x) ∧ Ext Z.heap h) (fun _ _ _ _ _ => True)
    (fun _ U o U' => ∃ v Lo, o = .returned v ∧ Qy v U'.heap ∧ Fr Z.heap.size Lo ∧ CHr Z EL U.vm U.heap U'.vm U'.heap ∧ ReturnedEndW U o U' Lo rm.cells rm.slots ∧ (nI = true → U.WarmedH U'.vm) ∧ Ext Z.heap U'.heap)
section Calls
variable {Z : State} {EL : List (String × Nat)} {nI : Bool} {a0 : Array Value} {l : Launch} {own nm : String} {bytes : ByteArray} {ml : Nat} {ret : Option FieldType} {R rm : Room} {K : Kx} {Q Qy : Option Value → Heap → Prop} {W W' : List Addr} {h : Heap} {cl sl pc len Wt kc ks : Nat} {L : Array Slot} {S rest argsL : List Value} {y z : MethodName} {as' : Array Value} {index : Nat}
theorem Ctr.of_run {L0 : Array Slot} {ws : List Jvm.Cond} (hpl : plainFor y = true) (hEL : EW Z a0 EL) (hent : argsToLocals as' ml = L0)
    (body : ∀ K, Ok Z EL a0 l y.cls y.name bytes ml ret rm K → Run Z EL nI K Qy W h 0 0 0 L0 []) : Ctr Z EL nI l ws y bytes ml ret rm as' h W Qy := by
  refine MetFree.of_bodySF (code := bytes) (maxLocals := ml) (ret := ret) hpl hisR ?_
  intro p e s m args below meth c s₁ Bd hml hP hK
  obtain ⟨rfl, hZ, hh, hC, hS, hO⟩ := hP
  subst hent
  have e0 : s₁.heap = h := by rw [← hh, Bd.state]; rfl
  obtain ⟨s2, v, Lo, g1, g2, g3, g4, g5, g6, g7, g8⟩ := body (p, l, e, rm, s, m, args, below, meth, c) ⟨Bd.exec, rfl, rfl, Bd.bytes, hml, Bd.returns, Bd.notSynchronized, (name_of_methodNamed Bd.named Bd.method).1, findClass_of_methodNamed Bd.named, hEL⟩ s₁
    ⟨s.vm, 0, [], Stand.of_body Bd, (State.WarmedH.refl s).since 0, Nat.zero_le _, hZ, by subst hh; exact CHr.refl hC, hS, e0, Fr.nil _, fun _ => State.WarmedH.refl s, hO⟩
  exact ⟨s2, _, g1, g2, g3, v, Lo, rfl, g4, g5, g6, g7, g8⟩
theorem Ctr.cal (hC : Ctr Z EL nI l [] y bytes ml ret rm as' h W Qy) (wc : (Jvm.Cond.code y bytes ml ret).before a0 Z = true) (wz : (Jvm.Cond.initialized y.cls).before a0 Z = true) (hf : rm.frames + 1 ≤ R.frames) (hl : Wt + (ml + 11) + rm.locals ≤ R.locals) :
    Cal Z EL nI a0 l R y len Wt as' h W rm.cells rm.slots Qy := fun p e bl s as vm0 hZ hEL H hS hO =>
  BackS.of_freeW (bytes := bytes) (maxL := ml) (ret := ret) (E := fun _ first o t Lo k n => k = rm.cells ∧ n = rm.slots ∧ (∃ v, o = .returned v ∧ Qy v t.heap) ∧ Fr Z.heap.size Lo ∧ CHr Z EL first.vm first.heap t.vm t.heap ∧ (nI = true → first.WarmedH t.vm) ∧ Ext Z.heap t.heap) hC hf hl
    (fun m meth c A a Y hp => have hU : Z.Warmed39 A.U.vm := wtrans (s := s.setVm vm0) hZ Y.warmed
      ⟨by show (Cond.and _ .tt).before a A.U = true; rw [Cond.before_and, mv hU wc]; rfl, mv hU wc, mv hU wz, hp.2.2.1, hp.2.2.2⟩)
    (fun m meth c A a g mk Y hp => have B := CHv.at Y hZ hEL H; ⟨hp.1, wtrans (s := s.setVm vm0) hZ Y.warmed, hp.2.1, B.1, fun x hx => ⟨(hS x hx).1, B.safe (hS x hx).1 (hS x hx).2⟩, hO⟩) (fun _ _ _ _ _ _ _ _ _ => trivial)
    (fun _ _ _ _ ⟨v, Lo, h1, h2, h3, h4, h5, h6⟩ => ⟨Lo, _, _, h5, rfl, rfl, ⟨v, h1, h2⟩, h3, h4, h6⟩)
    (fun m meth c A a g mk v t Lo k n Y hp _ _ ⟨e1, e2, ⟨v', e3, e4⟩, e5, e6, e7, e8⟩ => by
      cases e3; subst e1 e2
      refine ⟨Lo, e4, e5, rfl, rfl, rfl, (CHv.at Y hZ hEL H).trans ?_, fun q => State.WarmedH.trans Y.warmed (e7 q), e8⟩
      rw [← hp.2.1]; exact e6)
/-- a law of the library's or of a paste, that interns nothing -/
theorem Cal.of_back {Qz : Option Value → Heap → List Loc → Prop}
    (hB : ∀ (p : Program) (e : Env) (bl : List Frame) (s : State) (as : Array Value), Z.Warmed39 s.vm → Ext Z.heap h → Back l R p e bl s as y len Wt (fun A a => a = as' ∧ A.U.heap = h ∧ A.cells + kc ≤ R.cells ∧ A.slots + ks ≤ R.slots) (fun A _ v B => ∃ Lo, Qz v B.U.heap Lo ∧ B.locs = A.locs ++ Lo ∧ B.cells = A.cells + kc ∧ B.slots = A.slots + ks))
    (hQ : ∀ v h' Lo, Qz v h' Lo → Qy v h' ∧ Fr Z.heap.size Lo ∧ ∃ ws, Keep h h' ws ∧ ∀ x ∈ ws, Z.heap.size ≤ x ∧ Sf Z EL W h x) : Cal Z EL nI a0 l R y len Wt as' h W kc ks Qy := fun p e bl s as vm0 hZ hEL H hS hO => by
  intro m meth c A g ig mk a X hg hsize hdg hW hn hp
  obtain ⟨v, B, X', ⟨Lo, hq, e1, e2, e3⟩, hsteps⟩ := hB p e bl (s.setVm vm0) as hZ hO m meth c A g ig mk a X hg hsize hdg hW hn hp
  obtain ⟨q1, q2, ws, q3, q4⟩ := hQ _ _ _ hq
  have hs : ∀ x ∈ ws, Safe Z EL vm0 h x := fun x hx => (q4 x hx).2 vm0 hZ hS
  exact ⟨v, B, X'.retabled X'.warmed.wide, X'.warmed.since _, by rw [hp.2.1]; exact q3.1, ⟨Lo, q1, q2, e1, e2, e3, (CHr.keep q3 hs H).trans (CHv.at X' hZ hEL (H.keep q3 hs)), fun _ => X'.warmed, (Old.keep (Z := Z) (n0 := Z.heap.size) ⟨rfl, hO⟩ q3 (fun x hx => (q4 x hx).1)).2⟩, hsteps⟩
theorem Cal.more {kc' ks' : Nat} (hC : Cal Z EL nI a0 l R y len Wt as' h W kc ks Qy) (h1 : kc ≤ kc') (h2 : ks ≤ ks') : Cal Z EL nI a0 l R y len Wt as' h W kc' ks' Qy := fun p e bl s as vm0 hZ hEL H hS hO => by
  intro m meth c A g ig mk a X hg hsize hdg hW hn hp
  obtain ⟨v, B, X', q1, q2, ⟨Lo, r1, r2, r3, r4, r5, r6⟩, st⟩ := hC p e bl s as vm0 hZ hEL H hS hO m meth c A g ig mk a X hg hsize hdg hW hn ⟨hp.1, hp.2.1, by have := hp.2.2.1; omega, by have := hp.2.2.2; omega⟩
  exact ⟨v, ⟨B.U, B.locs, A.cells + kc', A.slots + ks'⟩, X'.mono (by show B.cells ≤ A.cells + kc'; rw [r4]; omega) (by show B.slots ≤ A.slots + ks'; rw [r5]; omega), q1, q2, ⟨Lo, r1, r2, r3, rfl, rfl, r6⟩, st⟩
theorem Cal.conseq {Qz : Option Value → Heap → Prop} (hC : Cal Z EL nI a0 l R y len Wt as' h W' kc ks Qy) (hs : ∀ x ∈ W', x ∈ W) (hq : ∀ v h', Qy v h' → Qz v h') : Cal Z EL nI a0 l R y len Wt as' h W kc ks Qz := fun p e bl s as vm0 hZ hEL H hS hO => by
  intro m meth c A g ig mk a X hg hsize hdg hW hn hp
  obtain ⟨v, B, X', q1, q2, ⟨Lo, r1, r⟩, st⟩ := hC p e bl s as vm0 hZ hEL H (fun x hx => hS x (hs x hx)) hO m meth c A g ig mk a X hg hsize hdg hW hn hp
  exact ⟨v, B, X', q1, q2, ⟨Lo, hq _ _ r1, r⟩, st⟩
/-- behind a call: the walk stands again -/
theorem St.back (hK : Ok Z EL a0 l own nm bytes ml ret R K) {vm0 : Vm} {k0 : Nat} {locs : List Loc} {v : Option Value} {B : Pt} (X2 : K.s.Since vm0 k0) (X3 : k0 ≤ h.size) (X4 : Z.Warmed39 vm0) (X5 : CHr Z EL K.s.vm K.s.heap vm0 h) (X6 : ∀ x ∈ W, x < h.size ∧ Safe Z EL vm0 h x) (X8 : Fr Z.heap.size locs) (X9 : nI = true → K.s.WarmedH vm0)
    (Y : Stand K.p K.l K.e K.R ((K.s.setVm vm0).setVm B.U.vm) K.m K.as K.bl K.me K.c B.U B.locs B.cells B.slots) (hS : (K.s.setVm vm0).Since B.U.vm B.U.heap.size) (hg : h.size ≤ B.U.heap.size)
    (hp : ∃ Lo, Qy v B.U.heap ∧ Fr Z.heap.size Lo ∧ B.locs = locs ++ Lo ∧ B.cells = cl + kc ∧ B.slots = sl + ks ∧ CHr Z EL vm0 h B.U.vm B.U.heap ∧ (nI = true → (K.s.setVm vm0).WarmedH B.U.vm) ∧ Ext Z.heap B.U.heap) :
    Qy v B.U.heap ∧ St Z EL nI K W B.U.heap (cl + kc) (sl + ks) B.U := by
  obtain ⟨Lo, h1, h2, h3, h4, h5, h6, h7, h8⟩ := hp
  rw [h3, h4, h5] at Y
  exact ⟨h1, B.U.vm, B.U.heap.size, _, Y, X2.trans hS (Nat.le_trans X3 hg), Nat.le_refl _, State.Warmed39.trans (t := K.s.setVm vm0) X4 hS.1, X5.trans h6, fun x hx => ⟨Nat.lt_of_lt_of_le (X6 x hx).1 hg, h6.safe (X6 x hx).1 (X6 x hx).2⟩, rfl, X8.app h2, fun q => State.WarmedH.trans (X9 q) (h7 q), h8⟩
theorem Ok.fc (hK : Ok Z EL a0 l own nm bytes ml ret R K) {vm0 : Vm} {k0 : Nat} (X2 : K.s.Since vm0 k0) : (K.s.setVm vm0).vm.findClass own = some K.m.cls := by rw [show (K.s.setVm vm0).vm = vm0 from rfl, X2.1.alike.findClass]; exact hK.2.2.2.2.2.2.2.2.1
/-- invokestatic -/
theorem Run.static (hK : Ok Z EL a0 l own nm bytes ml ret R K) {by' : ByteArray} {ml' : Nat} {ret' : Option FieldType} (w1 : (Jvm.Cond.methodLink own index y).before a0 Z = true) (w2 : (Jvm.Cond.static y).before a0 Z = true) (w3 : (Jvm.Cond.initialized y.cls).before a0 Z = true) (w4 : (Jvm.Cond.code y by' ml' ret').before a0 Z = true)
    (hy : y.cls ≠ "java/lang/invoke/MethodHandle" ∧ y.cls ≠ "java/lang/invoke/VarHandle") (hsub : ∀ x ∈ W', x ∈ W) (hC : Cal Z EL nI a0 l R y 3 Wt argsL.toArray h W' kc ks Qy) (hsz : L.size = ml)
    (hlen : ∀ sig, parseMethodDescriptor y.desc = some sig → argsL.length = sig.parameters.length) (hst : S = argsL.reverse ++ rest) (hW : (rest.map fun v => v.category).sum ≤ Wt) (hd : decode bytes pc = .ok (.invokestatic index, 3)) (hc : cl + kc ≤ R.cells) (hs : sl + ks ≤ R.slots)
    (k : ∀ v h', Qy v h' → h.size ≤ h'.size → Run Z EL nI K Q W h' (cl + kc) (sl + ks) (pc + 3) L (v.toList ++ rest)) : Run Z EL nI K Q W h cl sl pc L S := fun T X => by
  obtain ⟨vm0, k0, locs, X1, X2, X3, X4, X5, X6, X7, X8, X9, X10⟩ := X
  have hown := hK.fc X2
  obtain ⟨hx, rfl, rfl, rfl, rfl, -, -, -, -, hEL⟩ := id hK
  have hZ : Z.Warmed39 (K.s.setVm vm0).vm := X4
  subst hst
  obtain ⟨v, vm1, B, -, Y, hS, hg, hp, st⟩ := callSS X1 hx (y := y) hown (mvT hZ w1) (mvT hZ w2) (mvT hZ w3) (mvT hZ w4) hy (hC K.p K.e K.bl K.s K.as vm0 X4 hEL X5.1 (fun x hx => X6 x (hsub x hx)) X10) (g := mkF K.m pc L (argsL.reverse ++ rest)) rfl hsz (argsL := argsL) (rest := rest) hlen rfl (by show 2 * 0 + _ ≤ _; omega) hd (fun _ _ => ⟨rfl, X7, hc, hs⟩)
  rw [X7] at hg
  obtain ⟨hq, Y'⟩ := St.back hK X2 X3 X4 X5 X6 X8 X9 Y hS hg hp
  obtain ⟨s2, v', Lo, g, r⟩ := k v _ hq hg B.U Y'
  exact ⟨s2, v', Lo, st.trans g, r⟩
/-- invokespecial of a constructor -/
theorem Run.special (hK : Ok Z EL a0 l own nm bytes ml ret R K) {by' : ByteArray} {ml' : Nat} (hy1 : y.name = "<init>") (w1 : (Jvm.Cond.methodLink own index y).before a0 Z = true) (w2 : (Jvm.Cond.instanceMethod y).before a0 Z = true) (w4 : (Jvm.Cond.code y by' ml' none).before a0 Z = true)
    (hy : y.cls ≠ "java/lang/invoke/MethodHandle" ∧ y.cls ≠ "java/lang/invoke/VarHandle") {a : Addr} (hsub : ∀ x ∈ W', x ∈ W) (hC : Cal Z EL nI a0 l R y 3 Wt (.ref a :: argsL).toArray h W' kc ks Qy) (hsz : L.size = ml)
    (hlen : ∀ sig, parseMethodDescriptor y.desc = some sig → argsL.length = sig.parameters.length) (hst : S = argsL.reverse ++ .ref a :: rest) (hW : (rest.map fun v => v.category).sum ≤ Wt) (hd : decode bytes pc = .ok (.invokespecial index, 3)) (hc : cl + kc ≤ R.cells) (hs : sl + ks ≤ R.slots)
    (k : ∀ v h', Qy v h' → h.size ≤ h'.size → Run Z EL nI K Q W h' (cl + kc) (sl + ks) (pc + 3) L (v.toList ++ rest)) : Run Z EL nI K Q W h cl sl pc L S := fun T X => by
  obtain ⟨vm0, k0, locs, X1, X2, X3, X4, X5, X6, X7, X8, X9, X10⟩ := X
  have hown := hK.fc X2
  obtain ⟨hx, rfl, rfl, rfl, rfl, -, -, -, -, hEL⟩ := id hK
  have hZ : Z.Warmed39 (K.s.setVm vm0).vm := X4
  subst hst
  obtain ⟨v, vm1, B, -, Y, hS, hg, hp, st⟩ := X1.specialBackS hx (y := y) hy1 hown (mvT hZ w1) (mvT hZ w2) (mvT hZ w4) hy (hC K.p K.e K.bl K.s K.as vm0 X4 hEL X5.1 (fun x hx => X6 x (hsub x hx)) X10) (g := mkF K.m pc L (argsL.reverse ++ .ref a :: rest)) rfl hsz (Steps.refl _) (a := a) (argsL := argsL) (rest := rest) hlen rfl (by show 2 * 0 + _ ≤ _; omega) hd (fun _ _ => ⟨rfl, X7, hc, hs⟩)
  rw [X7] at hg
  obtain ⟨hq, Y'⟩ := St.back hK X2 X3 X4 X5 X6 X8 X9 Y hS hg hp
  obtain ⟨s2, v', Lo, g, r⟩ := k v _ hq hg B.U Y'
  exact ⟨s2, v', Lo, st.trans g, r⟩
/-- invokevirtual, the object exactly of class C -/
theorem Run.virtual (hK : Ok Z EL a0 l own nm bytes ml ret R K) {C : String} (w1 : (Jvm.Cond.methodLink own index y).before a0 Z = true) (w2 : (Jvm.Cond.declares y).before a0 Z = true) (hnf : ∀ s : State, Z.Warmed39 s.vm → NotFace s y) (w3 : (Jvm.Cond.selects C y z).before a0 Z = true) (w4 : (Jvm.Cond.instanceMethod z).before a0 Z = true)
    (hy : y.cls ≠ "java/lang/invoke/MethodHandle" ∧ y.cls ≠ "java/lang/invoke/VarHandle") {a : Addr} (E : Exa Z h a C) (hsub : ∀ x ∈ W', x ∈ W) (hC : Cal Z EL nI a0 l R z 3 Wt (.ref a :: argsL).toArray h W' kc ks Qy) (hsz : L.size = ml)
    (hlen : ∀ sig, parseMethodDescriptor y.desc = some sig → argsL.length = sig.parameters.length) (hst : S = argsL.reverse ++ .ref a :: rest) (hW : (rest.map fun v => v.category).sum ≤ Wt) (hd : decode bytes pc = .ok (.invokevirtual index, 3)) (hc : cl + kc ≤ R.cells) (hs : sl + ks ≤ R.slots)
    (k : ∀ v h', Qy v h' → h.size ≤ h'.size → Run Z EL nI K Q W h' (cl + kc) (sl + ks) (pc + 3) L (v.toList ++ rest)) : Run Z EL nI K Q W h cl sl pc L S := fun T X => by
  obtain ⟨vm0, k0, locs, X1, X2, X3, X4, X5, X6, X7, X8, X9, X10⟩ := X
  have hown := hK.fc X2
  obtain ⟨hx, rfl, rfl, rfl, rfl, -, -, -, -, hEL⟩ := id hK
  have hZ : Z.Warmed39 (K.s.setVm vm0).vm := X4
  subst hst
  obtain ⟨cq, kq, qa, qb, qc⟩ := isOf hZ X7 E
  obtain ⟨v, vm1, B, -, Y, hS, hg, hp, st⟩ := X1.virtualBackS hx (y := y) (z := z) hown (mvT hZ w1) (mvT hZ w2) (hnf _ hZ) (mvT hZ w3) (mvT hZ w4) hy (hC K.p K.e K.bl K.s K.as vm0 X4 hEL X5.1 (fun x hx => X6 x (hsub x hx)) X10) qa qc (g := mkF K.m pc L (argsL.reverse ++ .ref a :: rest)) rfl hsz (Steps.refl _) (argsL := argsL) (rest := rest) hlen rfl (by show 2 * 0 + _ ≤ _; omega) hd (fun _ _ => ⟨rfl, X7, hc, hs⟩)
  rw [X7] at hg
  obtain ⟨hq, Y'⟩ := St.back hK X2 X3 X4 X5 X6 X8 X9 Y hS hg hp
  obtain ⟨s2, v', Lo, g, r⟩ := k v _ hq hg B.U Y'
  exact ⟨s2, v', Lo, st.trans g, r⟩
/-- invokevirtual of a private method of an ordinary class -/
theorem Run.privat (hK : Ok Z EL a0 l own nm bytes ml ret R K) {by' : ByteArray} {ml' n' : Nat} {ret' : Option FieldType} {C : String} (w1 : (Jvm.Cond.methodLink own index y).before a0 Z = true) (w2 : (Jvm.Cond.instanceMethod y).before a0 Z = true) (w3 : (Jvm.Cond.instantiable y.cls n').before a0 Z = true) (w5 : (Jvm.Cond.privateMethod y).before a0 Z = true) (w4 : (Jvm.Cond.code y by' ml' ret').before a0 Z = true)
    (hy : y.cls ≠ "java/lang/invoke/MethodHandle" ∧ y.cls ≠ "java/lang/invoke/VarHandle") {a : Addr} (E : Exa Z h a C) (hsub : ∀ x ∈ W', x ∈ W) (hC : Cal Z EL nI a0 l R y 3 Wt (.ref a :: argsL).toArray h W' kc ks Qy) (hsz : L.size = ml)
    (hlen : ∀ sig, parseMethodDescriptor y.desc = some sig → argsL.length = sig.parameters.length) (hst : S = argsL.reverse ++ .ref a :: rest) (hW : (rest.map fun v => v.category).sum ≤ Wt) (hd : decode bytes pc = .ok (.invokevirtual index, 3)) (hc : cl + kc ≤ R.cells) (hs : sl + ks ≤ R.slots)
    (k : ∀ v h', Qy v h' → h.size ≤ h'.size → Run Z EL nI K Q W h' (cl + kc) (sl + ks) (pc + 3) L (v.toList ++ rest)) : Run Z EL nI K Q W h cl sl pc L S := fun T X => by
  obtain ⟨vm0, k0, locs, X1, X2, X3, X4, X5, X6, X7, X8, X9, X10⟩ := X
  have hown := hK.fc X2
  obtain ⟨hx, rfl, rfl, rfl, rfl, -, -, -, -, hEL⟩ := id hK
  have hZ : Z.Warmed39 (K.s.setVm vm0).vm := X4
  subst hst
  obtain ⟨cq, q1, q2⟩ := E.cell
  obtain ⟨mk, me, hn, hm, hst', hab⟩ := Cond.instanceMethod_spec (mvT (args := K.as) hZ w2)
  obtain ⟨me', cM, hm', -, -, -, -, -, -, hsig⟩ := Cond.code_spec hn (mvT (args := K.as) hZ w4)
  cases hm.symm.trans hm'
  obtain ⟨ci, ki, i1, i2, -, i4, -⟩ := Cond.instantiable_spec (mvT (args := K.as) hZ w3)
  obtain rfl : ci = mk.cls := Option.some.inj (i1.symm.trans (findClass_of_methodNamed hn))
  have i5 : ki.isInterface = false := by cases q : ki.isInterface <;> simp [q] at i4 ⊢
  have hsel : selectMethod K.e.platform (K.s.setVm vm0).vm cq.cls mk = .method mk := selectMethod_private hm (Cond.privateMethod_at (mvP hZ w5 (args := #[])) mk me hn hm)
  obtain ⟨vm1, Y1, st1⟩ := X1.invokevirtual hx hown (mvT hZ w1) hn hm hst' i2 i5 hy (a := a) (cell := cq) (by rw [X7]; exact q1) q2 hsel hm hab i2 i5 (g := mkF K.m pc L (argsL.reverse ++ .ref a :: rest)) rfl (argsL := argsL) (rest := rest) (hlen _ hsig) rfl hd
  obtain ⟨v, B, Y, hS, hg, hp, st2⟩ := hC K.p K.e K.bl K.s K.as vm0 X4 hEL X5.1 (fun x hx => X6 x (hsub x hx)) X10 K.m K.me K.c ⟨T.setVm vm1, locs, cl, sl⟩ (mkF K.m pc L rest) (.invokevirtual index) mk (.ref a :: argsL).toArray Y1 rfl hsz hd (by show 2 * 0 + (rest.map fun v => v.category).sum ≤ Wt; omega) (Y1.named hn) ⟨rfl, X7, hc, hs⟩
  replace hg : h.size ≤ B.U.heap.size := by rw [← X7]; exact hg
  obtain ⟨hq, Y'⟩ := St.back hK X2 X3 X4 X5 X6 X8 X9 Y hS hg hp
  obtain ⟨s2, v', Lo, g, r⟩ := k v _ hq hg B.U Y'
  exact ⟨s2, v', Lo, st1 _ fun acts => by rw [doInvoke_state]; exact st2.trans g, r⟩
theorem nfS {C : String} (w3 : (Jvm.Cond.selects C y y).before a0 Z = true) : ∀ s : State, Z.Warmed39 s.vm → NotFace s y := fun s hZ => notFace_of_selects (args := #[]) (mvT hZ w3)
end Calls
section Single
variable {Z : State} {EL : List (String × Nat)} {nI : Bool} {a0 : Array Value} {l : Launch} {own nm : String} {bytes : ByteArray} {ml : Nat} {ret : Option FieldType} {R : Room} {K : Kx} {Q : Option Value → Heap → Prop} {W : List Addr} {h : Heap} {cl sl pc pc' index : Nat} {L L' : Array Slot} {S rest : List Value} {a : Addr} {C : String} {ty : FieldType}
theorem Run.new (hK : Ok Z EL a0 l own nm bytes ml ret R K) {n : Nat} (w : (Jvm.Cond.classLink own index C).before a0 Z = true) (wi : (Jvm.Cond.instantiable C n).before a0 Z = true) (wz : (Jvm.Cond.initialized C).before a0 Z = true) (hd : decode bytes pc = .ok (.new index, 3)) (hc : cl + 1 ≤ R.cells) (hl : sl + n ≤ R.slots)
    (k : ∀ h', Ext h h' → Exa Z h' h.size C → (∀ {O f d : String} {ty : FieldType}, Laid Z a0 C O f d → parseFieldDescriptor d = some ty → Fld Z h' h.size O f d (defaultValue ty)) → Run Z EL nI K Q (h.size :: W) h' (cl + 1) (sl + n) (pc + 3) L (.ref h.size :: S)) : Run Z EL nI K Q W h cl sl pc L S := by
  obtain ⟨hx, rfl, rfl, rfl, rfl, -⟩ := id hK
  refine Run.grow hK (P := fun h' => Exa Z h' h.size C ∧ (∀ {O f d : String} {ty : FieldType}, Laid Z a0 C O f d → parseFieldDescriptor d = some ty → Fld Z h' h.size O f d (defaultValue ty))) (fun T vm0 locs X hZ hown e => ?_) (fun h' E P => k h' E P.1 P.2)
  obtain ⟨T', h', X', e', E', A', D', -, st⟩ := newO X hx hZ hown w wi wz e (g := mkF K.m pc L S) rfl hd hc hl
  exact ⟨T', h', X', e', E', A'.lt, ⟨A', D'⟩, st⟩
theorem Run.newarr (hK : Ok Z EL a0 l own nm bytes ml ret R K) {aty : ArrayType} (w : (Jvm.Cond.arrayClass (newarray.typeOf aty)).before a0 Z = true) {n : Int32} (hd : decode bytes pc = .ok (.newarray aty, 2)) (hn : ¬ n < 0) {cap : Nat} (hcap : n.toNatClampNeg ≤ cap) (hb : cap * 8 ≤ 536870912) (hc : cl + 1 ≤ R.cells) (hl : sl + cap ≤ R.slots)
    (k : ∀ h' cA, Ext h h' → Arv Z h' h.size cA (newarray.typeOf aty) n [] (defaultValue (newarray.typeOf aty)) → Run Z EL nI K Q (h.size :: W) h' (cl + 1) (sl + cap) (pc + 2) L (.ref h.size :: rest)) : Run Z EL nI K Q W h cl sl pc L (.int n :: rest) := by
  obtain ⟨hx, rfl, rfl, rfl, rfl, -⟩ := id hK
  refine Run.grow hK (P := fun h' => ∃ cA, Arv Z h' h.size cA (newarray.typeOf aty) n [] (defaultValue (newarray.typeOf aty))) (fun T vm0 locs X hZ hown e => ?_) (fun h' E ⟨cA, P⟩ => k h' cA E P)
  obtain ⟨T', h', cA, X', e', E', A', st⟩ := newP X hx hZ w e (g := mkF K.m pc L (.int n :: rest)) rfl hd rfl hn hcap hb hc hl
  exact ⟨T', h', X', e', E', A'.lt, ⟨cA, Arv.new A' hn⟩, st⟩
theorem Run.getf (hK : Ok Z EL a0 l own nm bytes ml ret R K) {R0 O n d host : String} (w : (Jvm.Cond.fieldLink own index R0 n d).before a0 Z = true ∨ (Jvm.Cond.fieldLinkNest own index R0 n d host).before a0 Z = true) (via : Via Z R0 O n d) {v : Value} (F : Fld Z h a O n d v) (hd : decode bytes pc = .ok (.getfield index, 3))
    (k : Run Z EL nI K Q W h cl sl (pc + 3) L (v :: rest)) : Run Z EL nI K Q W h cl sl pc L (.ref a :: rest) := by
  obtain ⟨hx, rfl, rfl, rfl, rfl, -⟩ := id hK
  refine Run.same hK (fun T vm0 locs X hZ hown e => ?_) k
  exact getF X hx hZ hown w via e F (g := mkF K.m pc L (.ref a :: rest)) rfl rfl hd
theorem Run.gets (hK : Ok Z EL a0 l own nm bytes ml ret R K) {R0 O n d : String} (w : (Jvm.Cond.fieldLink own index R0 n d).before a0 Z = true) (via : Via Z R0 O n d) {v : Value} (F : Sta Z h O n d v) (hd : decode bytes pc = .ok (.getstatic index, 3))
    (k : Run Z EL nI K Q W h cl sl (pc + 3) L (v :: S)) : Run Z EL nI K Q W h cl sl pc L S := by
  obtain ⟨hx, rfl, rfl, rfl, rfl, -⟩ := id hK
  refine Run.same hK (fun T vm0 locs X hZ hown e => ?_) k
  exact getS (host := "") X hx hZ hown w via e F (g := mkF K.m pc L S) rfl hd
theorem Run.putf (hK : Ok Z EL a0 l own nm bytes ml ret R K) {R0 O n d host : String} {kk : Nat} (w : (Jvm.Cond.fieldLink own index R0 n d).before a0 Z = true ∨ (Jvm.Cond.fieldLinkNest own index R0 n d host).before a0 Z = true) (via : Via Z R0 O n d) {v old : Value} (F : Fld Z h a O n d old) (E : Exa Z h a C)
    (Lf : (Jvm.Cond.lays C O n d).before a0 Z = true ∨ ((Jvm.Cond.laysFinal C O n d).before a0 Z = true ∧ own = O ∧ nm = "<init>")) (wi : (Jvm.Cond.instantiable C kk).before a0 Z = true) (hty : parseFieldDescriptor d = some ty) (hn : narrow ty v = v) (hf : fits ty v = true) (ha : Z.heap.size ≤ a) (hs : Sf Z EL W h a) (hd : decode bytes pc = .ok (.putfield index, 3))
    (k : ∀ h', Wr h h' a (Jvm.RoadKit.slotOf Z O n d) v → Run Z EL nI K Q W h' cl sl (pc + 3) L rest) : Run Z EL nI K Q W h cl sl pc L (v :: .ref a :: rest) := by
  obtain ⟨hx, rfl, rfl, rfl, rfl, -, -, hnm, -⟩ := id hK
  refine Run.write hK ha hs (fun T vm0 locs X hZ hown e => ?_) k
  exact putF X hx hZ hown w via e F E (Lf.imp id fun q => ⟨q.1, q.2.1, hnm.trans q.2.2⟩) wi hty hn hf (g := mkF K.m pc L (v :: .ref a :: rest)) rfl rfl hd
theorem Run.initobj (hK : Ok Z EL a0 l own nm bytes ml ret R K) (w1 : (Jvm.Cond.methodLink own index Lib.objectInit).before a0 Z = true) (w2 : (Jvm.Cond.instanceMethod Lib.objectInit).before a0 Z = true) (w3 : (Jvm.Cond.code Lib.objectInit ⟨#[0xb1]⟩ 1 none).before a0 Z = true) (hsz : L.size = ml) (hd : decode bytes pc = .ok (.invokespecial index, 3))
    (hf : 1 ≤ R.frames) {Wt : Nat} (hW : (rest.map fun v => v.category).sum ≤ Wt) (hl : Wt + 12 ≤ R.locals) (k : Run Z EL nI K Q W h cl sl (pc + 3) L rest) : Run Z EL nI K Q W h cl sl pc L (.ref a :: rest) := by
  obtain ⟨hx, rfl, rfl, rfl, rfl, -⟩ := id hK
  refine Run.same hK (fun T vm0 locs X hZ hown e => ?_) k
  exact initO X hx hZ hown w1 w2 w3 e (g := mkF K.m pc L (.ref a :: rest)) rfl hsz rfl hd hf (W := Wt) (by show 2 * 0 + _ ≤ _; omega) hl
theorem Run.ldci (hK : Ok Z EL a0 l own nm bytes ml ret R K) {v : Int32} (w : (Jvm.Cond.constant own index v).before a0 Z = true) (hd : decode bytes pc = .ok (.ldc index, 2)) (k : Run Z EL nI K Q W h cl sl (pc + 2) L (.int v :: S)) : Run Z EL nI K Q W h cl sl pc L S := by
  obtain ⟨hx, rfl, rfl, rfl, rfl, -⟩ := id hK
  refine Run.same hK (fun T vm0 locs X hZ hown e => ⟨T, X, e, ?_⟩) k
  exact X.ldcInt hx hown (mvT hZ w) (g := mkF K.m pc L S) rfl hd
theorem Run.ldcl (hK : Ok Z EL a0 l own nm bytes ml ret R K) {v : Int64} (w : (Jvm.Cond.constantLong own index v).before a0 Z = true) (hd : decode bytes pc = .ok (.ldc2_w index, 3)) (k : Run Z EL nI K Q W h cl sl (pc + 3) L (.long v :: S)) : Run Z EL nI K Q W h cl sl pc L S := by
  obtain ⟨hx, rfl, rfl, rfl, rfl, -⟩ := id hK
  refine Run.same hK (fun T vm0 locs X hZ hown e => ⟨T, X, e, ?_⟩) k
  exact X.ldc2Long hx hown (mvT hZ w) (g := mkF K.m pc L S) rfl hd
theorem Run.alen (hK : Ok Z EL a0 l own nm bytes ml ret R K) {k0 : ClassId} {z : Int32} {vs : List Value} {dv : Value} (A : Arv Z h a k0 ty z vs dv) (hd : decode bytes pc = .ok (.arraylength, 1)) (k : Run Z EL nI K Q W h cl sl (pc + 1) L (.int z :: rest)) : Run Z EL nI K Q W h cl sl pc L (.ref a :: rest) := by
  obtain ⟨hx, rfl, rfl, rfl, rfl, -⟩ := id hK
  obtain ⟨c0, A1, -, A3, A4, -⟩ := A
  refine Run.same hK (fun T vm0 locs X hZ hown e => ⟨T, X, e, fun t st => ?_⟩) k
  refine X.arraylength hx (by rw [e]; exact A1.1) (State.isArrayOf_alike hZ.alike A1.2.1) (g := mkF K.m pc L (.ref a :: rest)) rfl rfl hd _ ?_
  rw [len_of A3 A4]; exact st
/-- what lies at a place of an array -/
theorem arv_at {k0 : ClassId} {z : Int32} {vs : List Value} {dv : Value} (A : Arv Z h a k0 ty z vs dv) {j : Int32} (hj : ¬ j < 0 ∧ j < z) : ∃ c : Cell, Arr Z h a c ty ∧ ¬ (j < 0 ∨ c.slots.size ≤ j.toNatClampNeg) ∧ c.slots[j.toNatClampNeg]? = some (vs.getD j.toNatClampNeg dv) := by
  obtain ⟨c0, A1, -, A3, A4, A5, -⟩ := A
  have hin := inb_of A3 hj
  exact ⟨c0, A1, hin, A5 _ (Nat.lt_of_not_le fun q => hin (Or.inr q))⟩
theorem Run.ald (hK : Ok Z EL a0 l own nm bytes ml ret R K) {k0 : ClassId} {z : Int32} {vs : List Value} {dv v : Value} {j : Int32} {i : Instr} (A : Arv Z h a k0 ty z vs dv) (hi : (i = .caload ∧ ty = .char) ∨ (i = .iaload ∧ ty = .int) ∨ (i = .baload ∧ ty = .byte) ∨ (i = .laload ∧ ty = .long)) (hj : ¬ j < 0 ∧ j < z) (hv : vs.getD j.toNatClampNeg dv = v) (hd : decode bytes pc = .ok (i, 1))
    (k : Run Z EL nI K Q W h cl sl (pc + 1) L (v :: rest)) : Run Z EL nI K Q W h cl sl pc L (.int j :: .ref a :: rest) := by
  obtain ⟨hx, rfl, rfl, rfl, rfl, -⟩ := id hK
  obtain ⟨c0, A1, hin, hat⟩ := arv_at A hj
  rw [hv] at hat
  refine Run.same hK (fun T vm0 locs X hZ hown e => ⟨T, X, e, fun t st => ?_⟩) k
  have q1 : T.heap[a]? = some c0 := by rw [e]; exact A1.1
  have q2 := State.isArrayOf_alike hZ.alike A1.2.1
  rcases hi with ⟨rfl, rfl⟩ | ⟨rfl, rfl⟩ | ⟨rfl, rfl⟩ | ⟨rfl, rfl⟩
  · exact X.caload hx q1 q2 A1.2.2 hin hat (g := mkF K.m pc L (.int j :: .ref a :: rest)) rfl rfl hd _ st
  · exact X.iaload hx q1 q2 A1.2.2 hin hat (g := mkF K.m pc L (.int j :: .ref a :: rest)) rfl rfl hd _ st
  · exact X.baloadBytes hx q1 q2 A1.2.2 hin hat (g := mkF K.m pc L (.int j :: .ref a :: rest)) rfl rfl hd _ st
  · exact X.laload hx q1 q2 A1.2.2 hin hat (g := mkF K.m pc L (.int j :: .ref a :: rest)) rfl rfl hd _ st
theorem Run.aald (hK : Ok Z EL a0 l own nm bytes ml ret R K) {c0 : Cell} {j : Int32} {v : Value} (A : Arr Z h a c0 ty) (hty : ty.isReference = true) (hin : ¬ (j < 0 ∨ c0.slots.size ≤ j.toNatClampNeg)) (hat : c0.slots[j.toNatClampNeg]? = some v) (hd : decode bytes pc = .ok (.aaload, 1))
    (k : Run Z EL nI K Q W h cl sl (pc + 1) L (v :: rest)) : Run Z EL nI K Q W h cl sl pc L (.int j :: .ref a :: rest) := by
  obtain ⟨hx, rfl, rfl, rfl, rfl, -⟩ := id hK
  refine Run.same hK (fun T vm0 locs X hZ hown e => ⟨T, X, e, fun t st => ?_⟩) k
  exact X.aaload hx (by rw [e]; exact A.1) (State.isArrayOf_alike hZ.alike A.2.1) hty A.2.2 hin hat (g := mkF K.m pc L (.int j :: .ref a :: rest)) rfl rfl hd _ st
/-- an array's value list, a place written: the list is padded where it was short -/
def setv (vs : List Value) (n i : Nat) (dv v : Value) : List Value := (vs ++ List.replicate (n - vs.length) dv).set i v
theorem arv_set {k0 : ClassId} {z : Int32} {vs : List Value} {dv v : Value} (A : Arv Z h a k0 ty z vs dv) {j : Int32} (hj : ¬ j < 0 ∧ j < z) (hv : fits ty v = true) {h' : Heap} (Wt : Wr h h' a j.toNatClampNeg v) : Arv Z h' a k0 ty z (setv vs z.toNatClampNeg j.toNatClampNeg dv v) dv := by
  obtain ⟨c0, A1, A2, A3, A4, A5, A6⟩ := A.pad (pad_rep vs dv (z.toNatClampNeg - vs.length))
  have hin := inb_of A3 hj
  have hlt : j.toNatClampNeg < z.toNatClampNeg := by rw [← A3]; exact Nat.lt_of_not_le fun q => hin (Or.inr q)
  refine Arv.set A1 A2 A3 A4 A5 A6 hv Wt _ rfl ?_
  simp only [List.length_append, List.length_replicate]; omega
theorem Run.cst (hK : Ok Z EL a0 l own nm bytes ml ret R K) {k0 : ClassId} {z : Int32} {vs : List Value} {dv : Value} {j x : Int32} (A : Arv Z h a k0 .char z vs dv) (hj : ¬ j < 0 ∧ j < z) (ha : Z.heap.size ≤ a) (hd : decode bytes pc = .ok (.castore, 1))
    (k : ∀ h', Wr h h' a j.toNatClampNeg (.int (nar .char x)) → Arv Z h' a k0 .char z (setv vs z.toNatClampNeg j.toNatClampNeg dv (.int (nar .char x))) dv → Run Z EL nI K Q W h' cl sl (pc + 1) L rest) : Run Z EL nI K Q W h cl sl pc L (.int x :: .int j :: .ref a :: rest) := by
  obtain ⟨hx, rfl, rfl, rfl, rfl, -⟩ := id hK
  obtain ⟨c0, A1, hin, hat⟩ := arv_at A hj
  refine Run.write hK ha (sfA A (by decide)) (fun T vm0 locs X hZ hown e => ?_) (fun h' Wt => k h' Wt (arv_set A hj (fits_nar_char x) Wt))
  exact stC X hx hZ e A1 hin (g := mkF K.m pc L (.int x :: .int j :: .ref a :: rest)) rfl rfl hd
theorem Run.ist (hK : Ok Z EL a0 l own nm bytes ml ret R K) {k0 : ClassId} {z : Int32} {vs : List Value} {dv : Value} {j x : Int32} (A : Arv Z h a k0 .int z vs dv) (hj : ¬ j < 0 ∧ j < z) (ha : Z.heap.size ≤ a) (hd : decode bytes pc = .ok (.iastore, 1))
    (k : ∀ h', Wr h h' a j.toNatClampNeg (.int x) → Arv Z h' a k0 .int z (setv vs z.toNatClampNeg j.toNatClampNeg dv (.int x)) dv → Run Z EL nI K Q W h' cl sl (pc + 1) L rest) : Run Z EL nI K Q W h cl sl pc L (.int x :: .int j :: .ref a :: rest) := by
  obtain ⟨hx, rfl, rfl, rfl, rfl, -⟩ := id hK
  obtain ⟨c0, A1, hin, hat⟩ := arv_at A hj
  refine Run.write hK ha (sfA A (by decide)) (fun T vm0 locs X hZ hown e => ?_) (fun h' Wt => k h' Wt (arv_set A hj rfl Wt))
  exact stI X hx hZ e A1 hin (g := mkF K.m pc L (.int x :: .int j :: .ref a :: rest)) rfl rfl hd
theorem Run.lst (hK : Ok Z EL a0 l own nm bytes ml ret R K) {k0 : ClassId} {z : Int32} {vs : List Value} {dv : Value} {j : Int32} {x : Int64} (A : Arv Z h a k0 .long z vs dv) (hj : ¬ j < 0 ∧ j < z) (ha : Z.heap.size ≤ a) (hd : decode bytes pc = .ok (.lastore, 1))
    (k : ∀ h', Wr h h' a j.toNatClampNeg (.long x) → Arv Z h' a k0 .long z (setv vs z.toNatClampNeg j.toNatClampNeg dv (.long x)) dv → Run Z EL nI K Q W h' cl sl (pc + 1) L rest) : Run Z EL nI K Q W h cl sl pc L (.long x :: .int j :: .ref a :: rest) := by
  obtain ⟨hx, rfl, rfl, rfl, rfl, -⟩ := id hK
  obtain ⟨c0, A1, hin, hat⟩ := arv_at A hj
  refine Run.write hK ha (sfA A (by decide)) (fun T vm0 locs X hZ hown e => ?_) (fun h' Wt => k h' Wt (arv_set A hj rfl Wt))
  exact stJ X hx hZ e A1 hin (g := mkF K.m pc L (.long x :: .int j :: .ref a :: rest)) rfl rfl hd
theorem Run.bst (hK : Ok Z EL a0 l own nm bytes ml ret R K) {k0 : ClassId} {z : Int32} {vs : List Value} {dv : Value} {j x : Int32} (A : Arv Z h a k0 .byte z vs dv) (hj : ¬ j < 0 ∧ j < z) (ha : Z.heap.size ≤ a) (hs : Sf Z EL W h a) (hd : decode bytes pc = .ok (.bastore, 1))
    (k : ∀ h', Wr h h' a j.toNatClampNeg (.int (nar .byte x)) → Arv Z h' a k0 .byte z (setv vs z.toNatClampNeg j.toNatClampNeg dv (.int (nar .byte x))) dv → Run Z EL nI K Q W h' cl sl (pc + 1) L rest) : Run Z EL nI K Q W h cl sl pc L (.int x :: .int j :: .ref a :: rest) := by
  obtain ⟨hx, rfl, rfl, rfl, rfl, -⟩ := id hK
  obtain ⟨c0, A1, hin, hat⟩ := arv_at A hj
  refine Run.write hK ha hs (fun T vm0 locs X hZ hown e => ?_) (fun h' Wt => k h' Wt (arv_set A hj (fits_nar_byte x) Wt))
  exact stB X hx hZ e A1 hin (g := mkF K.m pc L (.int x :: .int j :: .ref a :: rest)) rfl rfl hd
/-- System.arraycopy between two arrays of one primitive kind -/
theorem Run.cpy (hK : Ok Z EL a0 l own nm bytes ml ret R K) (w1 : (Jvm.Cond.methodLink own index Jvm.Stand.acN).before a0 Z = true) (w2 : (Jvm.Cond.native Jvm.Stand.acN).before a0 Z = true) (w3 : (Jvm.Cond.static Jvm.Stand.acN).before a0 Z = true) (w4 : (Jvm.Cond.initialized "java/lang/System").before a0 Z = true)
    {b : Addr} {k1 k2 : ClassId} {z z' sp dp nn : Int32} {vs vd us : List Value} {dv dd : Value} (A : Arv Z h a k1 ty z vs dv) (B : Arv Z h b k2 ty z' vd dd) (hty : refKind ty = false) (h1 : ¬ sp < 0) (h2 : ¬ dp < 0) (h3 : ¬ nn < 0) (h4 : sp.toNatClampNeg + nn.toNatClampNeg ≤ z.toNatClampNeg) (h5 : dp.toNatClampNeg + nn.toNatClampNeg ≤ z'.toNatClampNeg)
    (hus : us = (List.range nn.toNatClampNeg).map fun i => vs.getD (sp.toNatClampNeg + i) dv) (hl : dp.toNatClampNeg + nn.toNatClampNeg ≤ vd.length) (ge : Z.heap.size ≤ b) (hs : Sf Z EL W h b) (hsz : L.size = ml) (hd : decode bytes pc = .ok (.invokestatic index, 3)) (hf : 1 ≤ R.frames) {Wt : Nat} (hW : (rest.map fun v => v.category).sum ≤ Wt) (hlo : Wt + 18 ≤ R.locals)
    (k : ∀ h', Keep h h' [b] → Arv Z h' b k2 ty z' (vd.take dp.toNatClampNeg ++ us ++ vd.drop (dp.toNatClampNeg + nn.toNatClampNeg)) dd → Run Z EL nI K Q W h' cl sl (pc + 3) L rest) : Run Z EL nI K Q W h cl sl pc L (.int nn :: .int dp :: .ref b :: .int sp :: .ref a :: rest) := fun T X => by
  obtain ⟨vm0, k0, locs, X1, X2, X3, X4, X5, X6, X7, X8, X9, X10⟩ := X
  have hown := hK.fc X2
  obtain ⟨hx, rfl, rfl, rfl, rfl, -⟩ := id hK
  obtain ⟨T', h', L', Y, eY, N, Kp, B', st⟩ := cpA X1 hx (show Z.Warmed39 (K.s.setVm vm0).vm from X4) hown w1 w2 w3 w4 X7 A B (Or.inl ⟨rfl, hty⟩) h1 h2 h3 h4 h5 hus hl X8 ge (g := mkF K.m pc L (.int nn :: .int dp :: .ref b :: .int sp :: .ref a :: rest)) rfl hsz rfl hd hf (W := Wt) (by show 2 * 0 + _ ≤ _; omega) hlo
  have hws : ∀ x ∈ [b], Safe Z EL vm0 h x := fun x hx => by cases List.mem_singleton.mp hx; exact hs vm0 X4 X6
  have C := CHr.keep Kp hws X5.1
  obtain ⟨s2, v, Lo, g, r⟩ := k h' Kp B' T' ⟨vm0, k0, L', Y, X2, Nat.le_trans X3 Kp.1, X4, X5.trans C, fun x hx => ⟨Nat.lt_of_lt_of_le (X6 x hx).1 Kp.1, C.safe (X6 x hx).1 (X6 x hx).2⟩, eY, N, X9, (Old.keep (Z := Z) (n0 := Z.heap.size) ⟨rfl, X10⟩ Kp (fun x hx => by cases List.mem_singleton.mp hx; exact ge)).2⟩
  exact ⟨s2, v, Lo, st _ g, r⟩
/-- ldc of a String constant of EL -/
theorem Run.ldcs (hK : Ok Z EL a0 l own nm bytes ml ret R K) (hnI : nI = false) {text : String} (w : (Jvm.Cond.stringLink own index text).before a0 Z = true) (wS : ∀ d ∈ Bundle.stringAtoms, d.before a0 Z = true) (hmem : (own, index) ∈ EL)
    {vs : List Value} {z : Int32} (ht : (∀ c ∈ text.toList, c.toNat < 256) ∧ text.toList.map (fun c => Value.int (Jvm.Lit.byteI c.toNat.toUInt16)) = vs) (hz : ¬ z < 0) (hzl : z.toNatClampNeg = vs.length) (hd : decode bytes pc = .ok (.ldc index, 2)) {n : Nat} (hn : 4 * text.toList.length ≤ n) (hbig : n ≤ 536870912) (hc : cl + 2 ≤ R.cells) (hl : sl + (n + 4) ≤ R.slots)
    (k : ∀ (h' : Heap) (x b : Addr) (kb : ClassId), Ext h h' → Exa Z h' x "java/lang/String" → Fld Z h' x "java/lang/String" "coder" "B" (.int 0) → Fld Z h' x "java/lang/String" "value" "[B" (.ref b) → Arv Z h' b kb .byte z vs (.int 0) → Run Z EL nI K Q W h' (cl + 2) (sl + (n + 4)) (pc + 2) L (.ref x :: S)) : Run Z EL nI K Q W h cl sl pc L S := fun T X => by
  obtain ⟨vm0, k0, locs, X1, X2, X3, X4, X5, X6, X7, X8, X9, X10⟩ := X
  have hown := hK.fc X2
  obtain ⟨hx, rfl, rfl, rfl, rfl, -, -, -, -, hEL⟩ := id hK
  obtain ⟨x, T', h', k1, b, kb, Y, eY, E, hS, hk1, hZ', -, f1, f2, f3, f4, f5, f6, hC, -, -, st⟩ := ldcCH X1 hx X4 hown w wS X7 X2 X3 hEL hmem X5.1 ht hz hzl (g := mkF K.m pc L S) rfl hd hn hbig hc hl
  obtain ⟨s2, v', Lo, g, r⟩ := k h' x b kb E f1 f2 f3 f4 T' ⟨T'.vm, k1, locs, Y, hS, hk1, hZ', X5.trans hC, fun y hy => ⟨Nat.lt_of_lt_of_le (X6 y hy).1 E.1, hC.safe (X6 y hy).1 (X6 y hy).2⟩, eY, X8, fun q => by (rw [hnI] at q; cases q), Nat.le_trans X10.1 E.1, fun x c q => E.2 x c (X10.2 x c q)⟩
  exact ⟨s2, v', Lo, st _ g, r⟩
/-- the ends -/
theorem Run.ends (hK : Ok Z EL a0 l own nm bytes ml ret R K) {v : Option Value} (hv : ret = none → v = none) (hc : cl ≤ R.cells) (hs : sl ≤ R.slots)
    (f : ∀ T vm0 locs fs, Stand K.p K.l K.e K.R (K.s.setVm vm0) K.m K.as K.bl K.me K.c T locs cl sl → (∀ (f : JFrame) (acts : List Action), f.method = K.m → f.locked = none → f.entered = [] → (doReturn K.e (T.setTop f) acts v).1 = T.setFrames fs) → Steps K.p.tables K.e K.bl (T.setTop (mkF K.m pc L S)) (T.setFrames fs)) (hQ : Q v h) : Run Z EL nI K Q W h cl sl pc L S := fun T X => by
  obtain ⟨vm0, k0, locs, X1, X2, X3, X4, X5, X6, X7, X8, X9, X10⟩ := X
  obtain ⟨hx, -, rfl, -, -, rfl, hlk, -, -, hEL⟩ := id hK
  obtain ⟨fs, hr, hrun, hended, hW⟩ := X1.leaveW X2 (by rw [X7]; exact X3) (v := v) hv hlk
  have hh : (T.setFrames fs).heap = h := X7
  have B := CHv.at X1 X4 hEL X5.1
  obtain ⟨w1, w2, w3, w4⟩ := hW
  refine ⟨T.setFrames fs, v, locs, f T vm0 locs fs X1 hr, hrun, hended, by rw [hh]; exact hQ, X8, by rw [hh]; exact X5.trans B, ⟨w1, w2, w3, w4.mono hc hs⟩, fun q => State.WarmedH.trans (X9 q) X1.warmed, by rw [hh]; exact X10⟩
theorem Run.retw (hK : Ok Z EL a0 l own nm bytes ml (some ty) R K) {w : Value} {i : Instr} (hn : narrow ty w = w)
    (hi : (i = .ireturn ∧ (ty = .int ∨ ty = .boolean ∨ ty = .byte ∨ ty = .char ∨ ty = .short) ∧ ∃ z, w = .int z) ∨ (i = .lreturn ∧ ty = .long ∧ ∃ z, w = .long z) ∨ (i = .dreturn ∧ ty = .double ∧ ∃ z, w = .double z) ∨ (i = .freturn ∧ ty = .float ∧ ∃ z, w = .float z) ∨ (i = .areturn ∧ ty.isReference = true ∧ w.isRef = true))
    (hd : decode bytes pc = .ok (i, 1)) (hc : cl ≤ R.cells) (hs : sl ≤ R.slots) (hQ : Q (some w) h) : Run Z EL nI K Q W h cl sl pc L (w :: rest) :=
  Run.ends hK (v := some w) (fun q => by cases q) hc hs (fun T vm0 locs fs X hr => by
    obtain ⟨hx, rfl, rfl, rfl, rfl, hrt, -⟩ := id hK
    exact retOut X hx hrt hn hi hd hr) hQ
theorem Run.retv (hK : Ok Z EL a0 l own nm bytes ml none R K) (hd : decode bytes pc = .ok (.return_, 1)) (hc : cl ≤ R.cells) (hs : sl ≤ R.slots) (hQ : Q none h) : Run Z EL nI K Q W h cl sl pc L [] :=
  Run.ends hK (v := none) (fun _ => rfl) hc hs (fun T vm0 locs fs X hr => by
    obtain ⟨hx, rfl, rfl, rfl, rfl, hrt, -⟩ := id hK
    exact X.returnOut hx hrt hd hr) hQ
end Single
/-! plain steps, by evaluation -/
abbrev Fr3 : Type := Nat × Array Slot × List Value
def ldI (len n pc : Nat) (L : Array Slot) (S : List Value) (k : Nat) : Option Fr3 := if len = n then (match L[k]? with | some (.val (.int v)) => some (pc + n, L, .int v :: S) | _ => none) else none
def ldJ (len n pc : Nat) (L : Array Slot) (S : List Value) (k : Nat) : Option Fr3 := if len = n then (match L[k]? with | some (.val (.long v)) => some (pc + n, L, .long v :: S) | _ => none) else none
def ldA (len n pc : Nat) (L : Array Slot) (S : List Value) (k : Nat) : Option Fr3 := if len = n then (match L[k]? with | some (.val (.ref v)) => some (pc + n, L, .ref v :: S) | some (.val .null) => some (pc + n, L, .null :: S) | _ => none) else none
def stI' (len n pc : Nat) (L : Array Slot) (S : List Value) (k : Nat) : Option Fr3 := if len = n then (match S with | .int v :: r => (match storeLocals L k (.int v) with | some L' => some (pc + n, L', r) | none => none) | _ => none) else none
def stJ' (len n pc : Nat) (L : Array Slot) (S : List Value) (k : Nat) : Option Fr3 := if len = n then (match S with | .long v :: r => (match storeLocals L k (.long v) with | some L' => some (pc + n, L', r) | none => none) | _ => none) else none
def stA' (len n pc : Nat) (L : Array Slot) (S : List Value) (k : Nat) : Option Fr3 := if len = n then (match S with | .ref v :: r => (match storeLocals L k (.ref v) with | some L' => some (pc + n, L', r) | none => none) | .null :: r => (match storeLocals L k .null with | some L' => some (pc + n, L', r) | none => none) | _ => none) else none
def cst (len n pc : Nat) (L : Array Slot) (S : List Value) (v : Value) : Option Fr3 := if len = n then some (pc + n, L, v :: S) else none
def bI (len pc : Nat) (L : Array Slot) (S : List Value) (f : Int32 → Int32 → Int32) : Option Fr3 := if len = 1 then (match S with | .int y :: .int x :: r => some (pc + 1, L, .int (f x y) :: r) | _ => none) else none
def bI0 (len pc : Nat) (L : Array Slot) (S : List Value) (f : Int32 → Int32 → Int32) : Option Fr3 := if len = 1 then (match S with | .int y :: .int x :: r => if y = 0 then none else some (pc + 1, L, .int (f x y) :: r) | _ => none) else none
def bJ (len pc : Nat) (L : Array Slot) (S : List Value) (f : Int64 → Int64 → Int64) : Option Fr3 := if len = 1 then (match S with | .long y :: .long x :: r => some (pc + 1, L, .long (f x y) :: r) | _ => none) else none
def bJ0 (len pc : Nat) (L : Array Slot) (S : List Value) (f : Int64 → Int64 → Int64) : Option Fr3 := if len = 1 then (match S with | .long y :: .long x :: r => if y = 0 then none else some (pc + 1, L, .long (f x y) :: r) | _ => none) else none
def bS (len pc : Nat) (L : Array Slot) (S : List Value) (f : Int64 → Int32 → Int64) : Option Fr3 := if len = 1 then (match S with | .int y :: .long x :: r => some (pc + 1, L, .long (f x y) :: r) | _ => none) else none
def uI (len pc : Nat) (L : Array Slot) (S : List Value) (f : Int32 → Value) : Option Fr3 := if len = 1 then (match S with | .int x :: r => some (pc + 1, L, f x :: r) | _ => none) else none
def uJ (len pc : Nat) (L : Array Slot) (S : List Value) (f : Int64 → Value) : Option Fr3 := if len = 1 then (match S with | .long x :: r => some (pc + 1, L, f x :: r) | _ => none) else none
def cJ (len pc : Nat) (L : Array Slot) (S : List Value) : Option Fr3 := if len = 1 then (match S with | .long y :: .long x :: r => some (pc + 1, L, .int (XT.cmpL x y) :: r) | _ => none) else none
def one? : Value → Bool
  | .int _ => true
  | .ref _ => true
  | .null => true
  | _ => false
theorem one_cat {v : Value} (h : one? v = true) : v.category = 1 := by cases v <;> first | rfl | cases h
def dp (len pc : Nat) (L : Array Slot) (S : List Value) : Option Fr3 := if len = 1 then (match S with | x :: r => if one? x = true then some (pc + 1, L, x :: x :: r) else none | _ => none) else none
def dpx (len pc : Nat) (L : Array Slot) (S : List Value) : Option Fr3 := if len = 1 then (match S with | x :: y :: r => if one? x = true then (if one? y = true then some (pc + 1, L, x :: y :: x :: r) else none) else none | _ => none) else none
def dp2 (len pc : Nat) (L : Array Slot) (S : List Value) : Option Fr3 := if len = 1 then (match S with | x :: y :: r => if one? x = true then (if one? y = true then some (pc + 1, L, x :: y :: x :: y :: r) else none) else none | _ => none) else none
def pp (len pc : Nat) (L : Array Slot) (S : List Value) : Option Fr3 := if len = 1 then (match S with | x :: r => if one? x = true then some (pc + 1, L, r) else none | _ => none) else none
def inc (len pc : Nat) (L : Array Slot) (S : List Value) (k : Nat) (c : Int) : Option Fr3 := if len = 3 then (match L[k]? with | some (.val (.int v)) => (match storeLocals L k (.int (v + Int32.ofInt c)) with | some L' => some (pc + 3, L', S) | none => none) | _ => none) else none
def jmp (len pc : Nat) (L : Array Slot) (S : List Value) (o : Int) : Option Fr3 := if len = 3 then (if 0 ≤ (pc : Int) + o then some (((pc : Int) + o).toNat, L, S) else none) else none
def stp (i : Instr) (len pc : Nat) (L : Array Slot) (S : List Value) : Option Fr3 :=
  match i with
  | .iload_n k => ldI len 1 pc L S k.val
  | .iload k => ldI len 2 pc L S k
  | .lload_n k => ldJ len 1 pc L S k.val
  | .lload k => ldJ len 2 pc L S k
  | .aload_n k => ldA len 1 pc L S k.val
  | .aload k => ldA len 2 pc L S k
  | .istore_n k => stI' len 1 pc L S k.val
  | .istore k => stI' len 2 pc L S k
  | .lstore_n k => stJ' len 1 pc L S k.val
  | .lstore k => stJ' len 2 pc L S k
  | .astore_n k => stA' len 1 pc L S k.val
  | .astore k => stA' len 2 pc L S k
  | .iconst c => cst len 1 pc L S (.int (Int32.ofInt c))
  | .bipush c => cst len 2 pc L S (.int (Int8.ofInt c).toInt32)
  | .sipush c => cst len 3 pc L S (.int (Int16.ofInt c).toInt32)
  | .aconst_null => cst len 1 pc L S .null
  | .lconst k => cst len 1 pc L S (.long (Int64.ofNat k))
  | .iadd => bI len pc L S (· + ·)
  | .isub => bI len pc L S (· - ·)
  | .imul => bI len pc L S (· * ·)
  | .iand => bI len pc L S (· &&& ·)
  | .ior => bI len pc L S (· ||| ·)
  | .ixor => bI len pc L S (· ^^^ ·)
  | .ishl => bI len pc L S (fun x y => x <<< (y &&& 31))
  | .ishr => bI len pc L S (fun x y => x >>> (y &&& 31))
  | .iushr => bI len pc L S XT.ushr
  | .irem => bI0 len pc L S (· % ·)
  | .idiv => bI0 len pc L S (· / ·)
  | .ineg => uI len pc L S (fun x => .int (-x))
  | .ladd => bJ len pc L S (· + ·)
  | .lsub => bJ len pc L S (· - ·)
  | .land => bJ len pc L S (· &&& ·)
  | .lor => bJ len pc L S (· ||| ·)
  | .lushr => bS len pc L S XT.ushrL
  | .lshl => bS len pc L S (fun x y => x <<< (y.toInt64 &&& 63))
  | .lrem => bJ0 len pc L S (fun x y => x - (x / y) * y)
  | .i2l => uI len pc L S (fun x => .long x.toInt64)
  | .l2i => uJ len pc L S (fun x => .int x.toInt32)
  | .i2b => uI len pc L S (fun x => .int x.toInt8.toInt32)
  | .i2c => uI len pc L S (fun x => .int x.toUInt32.toUInt16.toUInt32.toInt32)
  | .lcmp => cJ len pc L S
  | .dup => dp len pc L S
  | .dup_x1 => dpx len pc L S
  | .dup2 => dp2 len pc L S
  | .pop => pp len pc L S
  | .iinc k c => inc len pc L S k c
  | .goto o => jmp len pc L S o
  | _ => none
def stq : List (Nat × Instr × Nat) → Nat → Array Slot → List Value → Option Fr3
  | [], pc, L, S => some (pc, L, S)
  | (p, i, len) :: r, pc, L, S => if p = pc then (match stp i len pc L S with | none => none | some (pc', L', S') => stq r pc' L' S') else none
section PlainSteps
variable {tb : Tables} [Ours tb] {e : Env} {below : List Frame} {T t : State} {m : MethodId} {c : Code} {pc pc' len : Nat} {L L' : Array Slot} {S S' : List Value} {i : Instr}
theorem ldI_s {n k : Nat} {r : Fr3} (h : ldI len n pc L S k = some r) : len = n ∧ ∃ v, L[k]? = some (.val (.int v)) ∧ r = (pc + n, L, .int v :: S) := by
  unfold ldI at h
  by_cases q : len = n
  · rw [if_pos q] at h
    split at h
    · rename_i v e; cases h; exact ⟨q, v, e, rfl⟩
    · cases h
  · rw [if_neg q] at h; cases h
theorem ldJ_s {n k : Nat} {r : Fr3} (h : ldJ len n pc L S k = some r) : len = n ∧ ∃ v, L[k]? = some (.val (.long v)) ∧ r = (pc + n, L, .long v :: S) := by
  unfold ldJ at h
  by_cases q : len = n
  · rw [if_pos q] at h
    split at h
    · rename_i v e; cases h; exact ⟨q, v, e, rfl⟩
    · cases h
  · rw [if_neg q] at h; cases h
theorem ldA_s {n k : Nat} {r : Fr3} (h : ldA len n pc L S k = some r) : len = n ∧ ∃ v : Value, v.isRef = true ∧ L[k]? = some (.val v) ∧ r = (pc + n, L, v :: S) := by
  unfold ldA at h
  by_cases q : len = n
  · rw [if_pos q] at h
    split at h
    · rename_i v e; cases h; exact ⟨q, _, rfl, e, rfl⟩
    · rename_i e; cases h; exact ⟨q, _, rfl, e, rfl⟩
    · cases h
  · rw [if_neg q] at h; cases h
theorem stI_s {n k : Nat} {r : Fr3} (h : stI' len n pc L S k = some r) : len = n ∧ ∃ v S' L', S = .int v :: S' ∧ storeLocals L k (.int v) = some L' ∧ r = (pc + n, L', S') := by
  unfold stI' at h
  by_cases q : len = n
  · rw [if_pos q] at h
    split at h
    · split at h
      · rename_i e; cases h; exact ⟨q, _, _, _, rfl, e, rfl⟩
      · cases h
    · cases h
  · rw [if_neg q] at h; cases h
theorem stJ_s {n k : Nat} {r : Fr3} (h : stJ' len n pc L S k = some r) : len = n ∧ ∃ v S' L', S = .long v :: S' ∧ storeLocals L k (.long v) = some L' ∧ r = (pc + n, L', S') := by
  unfold stJ' at h
  by_cases q : len = n
  · rw [if_pos q] at h
    split at h
    · split at h
      · rename_i e; cases h; exact ⟨q, _, _, _, rfl, e, rfl⟩
      · cases h
    · cases h
  · rw [if_neg q] at h; cases h
theorem stA_s {n k : Nat} {r : Fr3} (h : stA' len n pc L S k = some r) : len = n ∧ ∃ (v : Value) (S' : List Value) (L' : Array Slot), v.isRef = true ∧ S = v :: S' ∧ storeLocals L k v = some L' ∧ r = (pc + n, L', S') := by
  unfold stA' at h
  by_cases q : len = n
  · rw [if_pos q] at h
    split at h
    · split at h
      · rename_i e; cases h; exact ⟨q, _, _, _, rfl, rfl, e, rfl⟩
      · cases h
    · split at h
      · rename_i e; cases h; exact ⟨q, _, _, _, rfl, rfl, e, rfl⟩
      · cases h
    · cases h
  · rw [if_neg q] at h; cases h
theorem cst_s {n : Nat} {v : Value} {r : Fr3} (h : cst len n pc L S v = some r) : len = n ∧ r = (pc + n, L, v :: S) := by
  unfold cst at h
  by_cases q : len = n
  · rw [if_pos q] at h; cases h; exact ⟨q, rfl⟩
  · rw [if_neg q] at h; cases h
theorem bI_s {f : Int32 → Int32 → Int32} {r : Fr3} (h : bI len pc L S f = some r) : len = 1 ∧ ∃ x y S', S = .int y :: .int x :: S' ∧ r = (pc + 1, L, .int (f x y) :: S') := by
  unfold bI at h
  by_cases q : len = 1
  · rw [if_pos q] at h
    split at h
    · cases h; exact ⟨q, _, _, _, rfl, rfl⟩
    · cases h
  · rw [if_neg q] at h; cases h
theorem bI0_s {f : Int32 → Int32 → Int32} {r : Fr3} (h : bI0 len pc L S f = some r) : len = 1 ∧ ∃ x y S', ¬ y = 0 ∧ S = .int y :: .int x :: S' ∧ r = (pc + 1, L, .int (f x y) :: S') := by
  unfold bI0 at h
  by_cases q : len = 1
  · rw [if_pos q] at h
    split at h
    · split at h
      · cases h
      · rename_i q0; cases h; exact ⟨q, _, _, _, q0, rfl, rfl⟩
    · cases h
  · rw [if_neg q] at h; cases h
theorem bJ_s {f : Int64 → Int64 → Int64} {r : Fr3} (h : bJ len pc L S f = some r) : len = 1 ∧ ∃ x y S', S = .long y :: .long x :: S' ∧ r = (pc + 1, L, .long (f x y) :: S') := by
  unfold bJ at h
  by_cases q : len = 1
  · rw [if_pos q] at h
    split at h
    · cases h; exact ⟨q, _, _, _, rfl, rfl⟩
    · cases h
  · rw [if_neg q] at h; cases h
theorem bJ0_s {f : Int64 → Int64 → Int64} {r : Fr3} (h : bJ0 len pc L S f = some r) : len = 1 ∧ ∃ x y S', ¬ y = 0 ∧ S = .long y :: .long x :: S' ∧ r = (pc + 1, L, .long (f x y) :: S') := by
  unfold bJ0 at h
  by_cases q : len = 1
  · rw [if_pos q] at h
    split at h
    · split at h
      · cases h
      · rename_i q0; cases h; exact ⟨q, _, _, _, q0, rfl, rfl⟩
    · cases h
  · rw [if_neg q] at h; cases h
theorem bS_s {f : Int64 → Int32 → Int64} {r : Fr3} (h : bS len pc L S f = some r) : len = 1 ∧ ∃ x y S', S = .int y :: .long x :: S' ∧ r = (pc + 1, L, .long (f x y) :: S') := by
  unfold bS at h
  by_cases q : len = 1
  · rw [if_pos q] at h
    split at h
    · cases h; exact ⟨q, _, _, _, rfl, rfl⟩
    · cases h
  · rw [if_neg q] at h; cases h
theorem uI_s {f : Int32 → Value} {r : Fr3} (h : uI len pc L S f = some r) : len = 1 ∧ ∃ x S', S = .int x :: S' ∧ r = (pc + 1, L, f x :: S') := by
  unfold uI at h
  by_cases q : len = 1
  · rw [if_pos q] at h
    split at h
    · cases h; exact ⟨q, _, _, rfl, rfl⟩
    · cases h
  · rw [if_neg q] at h; cases h
theorem uJ_s {f : Int64 → Value} {r : Fr3} (h : uJ len pc L S f = some r) : len = 1 ∧ ∃ x S', S = .long x :: S' ∧ r = (pc + 1, L, f x :: S') := by
  unfold uJ at h
  by_cases q : len = 1
  · rw [if_pos q] at h
    split at h
    · cases h; exact ⟨q, _, _, rfl, rfl⟩
    · cases h
  · rw [if_neg q] at h; cases h
theorem cJ_s {r : Fr3} (h : cJ len pc L S = some r) : len = 1 ∧ ∃ x y S', S = .long y :: .long x :: S' ∧ r = (pc + 1, L, .int (XT.cmpL x y) :: S') := by
  unfold cJ at h
  by_cases q : len = 1
  · rw [if_pos q] at h
    split at h
    · cases h; exact ⟨q, _, _, _, rfl, rfl⟩
    · cases h
  · rw [if_neg q] at h; cases h
theorem dp_s {r : Fr3} (h : dp len pc L S = some r) : len = 1 ∧ ∃ x S', one? x = true ∧ S = x :: S' ∧ r = (pc + 1, L, x :: x :: S') := by
  unfold dp at h
  by_cases q : len = 1
  · rw [if_pos q] at h
    split at h
    · split at h
      · rename_i q0; cases h; exact ⟨q, _, _, q0, rfl, rfl⟩
      · cases h
    · cases h
  · rw [if_neg q] at h; cases h
theorem pp_s {r : Fr3} (h : pp len pc L S = some r) : len = 1 ∧ ∃ x S', one? x = true ∧ S = x :: S' ∧ r = (pc + 1, L, S') := by
  unfold pp at h
  by_cases q : len = 1
  · rw [if_pos q] at h
    split at h
    · split at h
      · rename_i q0; cases h; exact ⟨q, _, _, q0, rfl, rfl⟩
      · cases h
    · cases h
  · rw [if_neg q] at h; cases h
theorem dpx_s {r : Fr3} (h : dpx len pc L S = some r) : len = 1 ∧ ∃ x y S', one? x = true ∧ one? y = true ∧ S = x :: y :: S' ∧ r = (pc + 1, L, x :: y :: x :: S') := by
  unfold dpx at h
  by_cases q : len = 1
  · rw [if_pos q] at h
    split at h
    · split at h
      · rename_i q0
        split at h
        · rename_i q1; cases h; exact ⟨q, _, _, _, q0, q1, rfl, rfl⟩
        · cases h
      · cases h
    · cases h
  · rw [if_neg q] at h; cases h
theorem dp2_s {r : Fr3} (h : dp2 len pc L S = some r) : len = 1 ∧ ∃ x y S', one? x = true ∧ one? y = true ∧ S = x :: y :: S' ∧ r = (pc + 1, L, x :: y :: x :: y :: S') := by
  unfold dp2 at h
  by_cases q : len = 1
  · rw [if_pos q] at h
    split at h
    · split at h
      · rename_i q0
        split at h
        · rename_i q1; cases h; exact ⟨q, _, _, _, q0, q1, rfl, rfl⟩
        · cases h
      · cases h
    · cases h
  · rw [if_neg q] at h; cases h
theorem inc_s {k : Nat} {d : Int} {r : Fr3} (h : inc len pc L S k d = some r) : len = 3 ∧ ∃ v L', L[k]? = some (.val (.int v)) ∧ storeLocals L k (.int (v + Int32.ofInt d)) = some L' ∧ r = (pc + 3, L', S) := by
  unfold inc at h
  by_cases q : len = 3
  · rw [if_pos q] at h
    split at h
    · rename_i v e
      split at h
      · rename_i e2; cases h; exact ⟨q, _, _, e, e2, rfl⟩
      · cases h
    · cases h
  · rw [if_neg q] at h; cases h
theorem jmp_s {o : Int} {r : Fr3} (h : jmp len pc L S o = some r) : len = 3 ∧ 0 ≤ (pc : Int) + o ∧ r = (((pc : Int) + o).toNat, L, S) := by
  unfold jmp at h
  by_cases q : len = 3
  · rw [if_pos q] at h
    split at h
    · rename_i q0; cases h; exact ⟨q, q0, rfl⟩
    · cases h
  · rw [if_neg q] at h; cases h
set_option maxHeartbeats 4000000 in
theorem stp_ok (h : At T m c below) (hx : tb.exec = Jvm.exec) (hd : decode c.code pc = .ok (i, len)) (hs : stp i len pc L S = some (pc', L', S')) (st : Steps tb e below (T.setTop (mkF m pc' L' S')) t) : Steps tb e below (T.setTop (mkF m pc L S)) t := by
  unfold stp at hs
  split at hs
  case h_1 => obtain ⟨rfl, v, e1, e2⟩ := ldI_s hs; cases e2; exact XS.iloadN h hx rfl hd e1 st
  case h_2 => obtain ⟨rfl, v, e1, e2⟩ := ldI_s hs; cases e2; exact XS.iload h hx rfl hd e1 st
  case h_3 => obtain ⟨rfl, v, e1, e2⟩ := ldJ_s hs; cases e2; exact XT.lloadN h hx rfl hd e1 st
  case h_4 => obtain ⟨rfl, v, e1, e2⟩ := ldJ_s hs; cases e2; exact XT.lload h hx rfl hd e1 st
  case h_5 => obtain ⟨rfl, v, e0, e1, e2⟩ := ldA_s hs; cases e2; exact XS.aloadN h hx rfl hd e1 e0 st
  case h_6 => obtain ⟨rfl, v, e0, e1, e2⟩ := ldA_s hs; cases e2; exact XS.aload h hx rfl hd e1 e0 st
  case h_7 => obtain ⟨rfl, v, S1, L1, rfl, e1, e2⟩ := stI_s hs; cases e2; exact XS.istoreN h hx rfl hd rfl e1 st
  case h_8 => obtain ⟨rfl, v, S1, L1, rfl, e1, e2⟩ := stI_s hs; cases e2; exact XS.istore h hx rfl hd rfl e1 st
  case h_9 => obtain ⟨rfl, v, S1, L1, rfl, e1, e2⟩ := stJ_s hs; cases e2; exact XT.lstoreN h hx rfl hd rfl e1 st
  case h_10 => obtain ⟨rfl, v, S1, L1, rfl, e1, e2⟩ := stJ_s hs; cases e2; exact XT.lstore h hx rfl hd rfl e1 st
  case h_11 => obtain ⟨rfl, v, S1, L1, e0, rfl, e1, e2⟩ := stA_s hs; cases e2; exact XS.astoreN h hx rfl hd rfl e0 e1 st
  case h_12 => obtain ⟨rfl, v, S1, L1, e0, rfl, e1, e2⟩ := stA_s hs; cases e2; exact XS.astore h hx rfl hd rfl e0 e1 st
  case h_13 => obtain ⟨rfl, e2⟩ := cst_s hs; cases e2; exact XS.iconst h hx rfl hd st
  case h_14 => obtain ⟨rfl, e2⟩ := cst_s hs; cases e2; exact XS.bipush h hx rfl hd st
  case h_15 => obtain ⟨rfl, e2⟩ := cst_s hs; cases e2; exact XS.sipush h hx rfl hd st
  case h_16 => obtain ⟨rfl, e2⟩ := cst_s hs; cases e2; exact XS.aconstNull h hx rfl hd st
  case h_17 => obtain ⟨rfl, e2⟩ := cst_s hs; cases e2; exact XT.lconst h hx rfl hd st
  case h_18 => obtain ⟨rfl, x, y, S1, rfl, e2⟩ := bI_s hs; cases e2; exact XS.iadd h hx rfl hd rfl st
  case h_19 => obtain ⟨rfl, x, y, S1, rfl, e2⟩ := bI_s hs; cases e2; exact XS.isub h hx rfl hd rfl st
  case h_20 => obtain ⟨rfl, x, y, S1, rfl, e2⟩ := bI_s hs; cases e2; exact XS.imul h hx rfl hd rfl st
  case h_21 => obtain ⟨rfl, x, y, S1, rfl, e2⟩ := bI_s hs; cases e2; exact XS.iand h hx rfl hd rfl st
  case h_22 => obtain ⟨rfl, x, y, S1, rfl, e2⟩ := bI_s hs; cases e2; exact XT.ior h hx rfl hd rfl st
  case h_23 => obtain ⟨rfl, x, y, S1, rfl, e2⟩ := bI_s hs; cases e2; exact XT.ixor h hx rfl hd rfl st
  case h_24 => obtain ⟨rfl, x, y, S1, rfl, e2⟩ := bI_s hs; cases e2; exact XT.ishl h hx rfl hd rfl st
  case h_25 => obtain ⟨rfl, x, y, S1, rfl, e2⟩ := bI_s hs; cases e2; exact XT.ishr h hx rfl hd rfl st
  case h_26 => obtain ⟨rfl, x, y, S1, rfl, e2⟩ := bI_s hs; cases e2; exact XT.iushr h hx rfl hd rfl st
  case h_27 => obtain ⟨rfl, x, y, S1, q0, rfl, e2⟩ := bI0_s hs; cases e2; refine XS.irem h hx rfl hd rfl q0 ?_; have q1 : x - x / y * y = x % y := irem_eq_mod x y; rw [q1]; exact st
  case h_28 => obtain ⟨rfl, x, y, S1, q0, rfl, e2⟩ := bI0_s hs; cases e2; exact XS.idiv h hx rfl hd rfl q0 st
  case h_29 => obtain ⟨rfl, x, S1, rfl, e2⟩ := uI_s hs; cases e2; exact XS.ineg h hx rfl hd rfl st
  case h_30 => obtain ⟨rfl, x, y, S1, rfl, e2⟩ := bJ_s hs; cases e2; exact XT.ladd h hx rfl hd rfl st
  case h_31 => obtain ⟨rfl, x, y, S1, rfl, e2⟩ := bJ_s hs; cases e2; exact XT.lsub h hx rfl hd rfl st
  case h_32 => obtain ⟨rfl, x, y, S1, rfl, e2⟩ := bJ_s hs; cases e2; exact XT.land h hx rfl hd rfl st
  case h_33 => obtain ⟨rfl, x, y, S1, rfl, e2⟩ := bJ_s hs; cases e2; exact XT.lor h hx rfl hd rfl st
  case h_34 => obtain ⟨rfl, x, y, S1, rfl, e2⟩ := bS_s hs; cases e2; exact XT.lushr h hx rfl hd rfl st
  case h_35 => obtain ⟨rfl, x, y, S1, rfl, e2⟩ := bS_s hs; cases e2; exact XT.lshl h hx rfl hd rfl st
  case h_36 => obtain ⟨rfl, x, y, S1, q0, rfl, e2⟩ := bJ0_s hs; cases e2; exact XT.lrem h hx rfl hd rfl q0 st
  case h_37 => obtain ⟨rfl, x, S1, rfl, e2⟩ := uI_s hs; cases e2; exact XT.i2l h hx rfl hd rfl st
  case h_38 => obtain ⟨rfl, x, S1, rfl, e2⟩ := uJ_s hs; cases e2; exact XT.l2i h hx rfl hd rfl st
  case h_39 => obtain ⟨rfl, x, S1, rfl, e2⟩ := uI_s hs; cases e2; exact XT.i2b h hx rfl hd rfl st
  case h_40 => obtain ⟨rfl, x, S1, rfl, e2⟩ := uI_s hs; cases e2; exact XT.i2c h hx rfl hd rfl st
  case h_41 => obtain ⟨rfl, x, y, S1, rfl, e2⟩ := cJ_s hs; cases e2; exact XT.lcmp h hx rfl hd rfl st
  case h_42 => obtain ⟨rfl, x, S1, q0, rfl, e2⟩ := dp_s hs; cases e2; exact XS.dup h hx rfl hd rfl (one_cat q0) st
  case h_43 => obtain ⟨rfl, x, y, S1, q0, q1, rfl, e2⟩ := dpx_s hs; cases e2; exact XT.dupX1 h hx rfl hd rfl (one_cat q0) (one_cat q1) st
  case h_44 => obtain ⟨rfl, x, y, S1, q0, q1, rfl, e2⟩ := dp2_s hs; cases e2; exact XT.dup2 h hx rfl hd rfl (one_cat q0) (one_cat q1) st
  case h_45 => obtain ⟨rfl, x, S1, q0, rfl, e2⟩ := pp_s hs; cases e2; exact XT.pop h hx rfl hd rfl (one_cat q0) st
  case h_46 => obtain ⟨rfl, v, L1, e0, e1, e2⟩ := inc_s hs; cases e2; exact XS.iinc h hx rfl hd e0 e1 st
  case h_47 => obtain ⟨rfl, q0, e2⟩ := jmp_s hs; cases e2; exact XS.goto h hx rfl rfl hd q0 rfl st
  case h_48 => cases hs
theorem stq_nil {r : Fr3} (h : stq [] pc L S = some r) : r = (pc, L, S) := (Option.some.inj h).symm
theorem stq_cons {p : Nat} {seg : List (Nat × Instr × Nat)} {r : Fr3} (h : stq ((p, i, len) :: seg) pc L S = some r) : p = pc ∧ ∃ pc1 L1 S1, stp i len pc L S = some (pc1, L1, S1) ∧ stq seg pc1 L1 S1 = some r := by
  have e : stq ((p, i, len) :: seg) pc L S = if p = pc then (match stp i len pc L S with | none => none | some (pc', L', S') => stq seg pc' L' S') else none := rfl
  rw [e] at h
  by_cases q : p = pc
  · rw [if_pos q] at h
    cases e1 : stp i len pc L S with
    | none => rw [e1] at h; cases h
    | some x => obtain ⟨pc1, L1, S1⟩ := x; rw [e1] at h; exact ⟨q, pc1, L1, S1, rfl, h⟩
  · rw [if_neg q] at h; cases h
theorem stq_ok (h : At T m c below) (hx : tb.exec = Jvm.exec) (seg : List (Nat × Instr × Nat)) : ∀ (pc : Nat) (L : Array Slot) (S : List Value), (∀ x ∈ seg, decode c.code x.1 = .ok x.2) → stq seg pc L S = some (pc', L', S') → Steps tb e below (T.setTop (mkF m pc' L' S')) t → Steps tb e below (T.setTop (mkF m pc L S)) t := by
  induction seg with
  | nil =>
    intro pc L S _ hs st
    have e := stq_nil hs
    simp only [Prod.mk.injEq] at e
    obtain ⟨rfl, rfl, rfl⟩ := e
    exact st
  | cons a r ih =>
    intro pc L S hseg hs st
    obtain ⟨p, i, len⟩ := a
    obtain ⟨rfl, pc1, L1, S1, e1, e2⟩ := stq_cons hs
    have hd := hseg _ (List.mem_cons_self ..)
    have hr := ih pc1 L1 S1 (fun x hm => hseg x (List.mem_cons_of_mem _ hm)) e2 st
    exact stp_ok h hx hd e1 hr
end PlainSteps
section Branches
variable {Z : State} {EL : List (String × Nat)} {nI : Bool} {a0 : Array Value} {l : Launch} {own nm : String} {bytes : ByteArray} {ml : Nat} {ret : Option FieldType} {R : Room} {K : Kx} {Q : Option Value → Heap → Prop} {W : List Addr} {h : Heap} {cl sl pc pc' : Nat} {L L' : Array Slot} {S S' rest : List Value} {x y : Int32} {o : Int} {a : Addr}
def segOk (bytes : ByteArray) (seg : List (Nat × Instr × Nat)) : Bool := seg.all fun x => decide (decode bytes x.1 = .ok x.2)
theorem Run.pure (hK : Ok Z EL a0 l own nm bytes ml ret R K) {seg : List (Nat × Instr × Nat)} (hseg : segOk bytes seg = true) (hs : stq seg pc L S = some (pc', L', S')) (k : Run Z EL nI K Q W h cl sl pc' L' S') : Run Z EL nI K Q W h cl sl pc L S := by
  obtain ⟨hx, rfl, rfl, rfl, rfl, -⟩ := id hK
  refine Run.step hK (fun T X t st => stq_ok X hx seg pc L S (fun x hm => ?_) hs st) k
  exact of_decide_eq_true (List.all_eq_true.mp hseg x hm)
theorem Run.icmp (hK : Ok Z EL a0 l own nm bytes ml ret R K) {cd : ClassFile.Cond} (hd : decode bytes pc = .ok (.if_icmp cd o, 3)) (ho : 0 ≤ (pc : Int) + o) (hp : ((pc : Int) + o).toNat = pc')
    (kY : if_icmp.holds cd x y = true → Run Z EL nI K Q W h cl sl pc' L rest) (kN : if_icmp.holds cd x y = false → Run Z EL nI K Q W h cl sl (pc + 3) L rest) : Run Z EL nI K Q W h cl sl pc L (.int y :: .int x :: rest) := by
  obtain ⟨hx, rfl, rfl, rfl, rfl, -⟩ := id hK
  cases hc : if_icmp.holds cd x y
  · exact Run.step hK (fun T X t st => XS.icmpNo X hx rfl hd rfl hc st) (kN hc)
  · exact Run.step hK (fun T X t st => XS.icmpYes X hx rfl (pc0 := pc) rfl hd rfl hc ho hp st) (kY hc)
theorem Run.ifz (hK : Ok Z EL a0 l own nm bytes ml ret R K) {cd : ClassFile.Cond} (hd : decode bytes pc = .ok (.ifCond cd o, 3)) (ho : 0 ≤ (pc : Int) + o) (hp : ((pc : Int) + o).toNat = pc')
    (kY : if_icmp.holds cd x 0 = true → Run Z EL nI K Q W h cl sl pc' L rest) (kN : if_icmp.holds cd x 0 = false → Run Z EL nI K Q W h cl sl (pc + 3) L rest) : Run Z EL nI K Q W h cl sl pc L (.int x :: rest) := by
  obtain ⟨hx, rfl, rfl, rfl, rfl, -⟩ := id hK
  cases hc : if_icmp.holds cd x 0
  · exact Run.step hK (fun T X t st => XS.ifNo X hx rfl hd rfl (by rw [if0]; exact hc) st) (kN hc)
  · exact Run.step hK (fun T X t st => XS.ifYes X hx rfl (pc0 := pc) rfl hd rfl (by rw [if0]; exact hc) ho hp st) (kY hc)
theorem h_eq (x y : Int32) : (if_icmp.holds .eq x y = true → x = y) ∧ (if_icmp.holds .eq x y = false → ¬ x = y) := by
  by_cases q : x = y
  · refine ⟨fun _ => q, fun z => ?_⟩; rw [(teq q).1] at z; cases z
  · refine ⟨fun z => ?_, fun _ => q⟩; rw [(feq q).1] at z; cases z
theorem h_ne (x y : Int32) : (if_icmp.holds .ne x y = true → ¬ x = y) ∧ (if_icmp.holds .ne x y = false → x = y) := by
  by_cases q : x = y
  · refine ⟨fun z => ?_, fun _ => q⟩; rw [(teq q).2] at z; cases z
  · refine ⟨fun _ => q, fun z => ?_⟩; rw [(feq q).2] at z; cases z
theorem h_lt (x y : Int32) : (if_icmp.holds .lt x y = true → x < y) ∧ (if_icmp.holds .lt x y = false → ¬ x < y) := by
  by_cases q : x < y
  · refine ⟨fun _ => q, fun z => ?_⟩; rw [(tlt q).1] at z; cases z
  · refine ⟨fun z => ?_, fun _ => q⟩; rw [(flt q).1] at z; cases z
theorem h_ge (x y : Int32) : (if_icmp.holds .ge x y = true → ¬ x < y) ∧ (if_icmp.holds .ge x y = false → x < y) := by
  by_cases q : x < y
  · refine ⟨fun z => ?_, fun _ => q⟩; rw [(tlt q).2.1] at z; cases z
  · refine ⟨fun _ => q, fun z => ?_⟩; rw [(flt q).2.1] at z; cases z
theorem h_gt (x y : Int32) : (if_icmp.holds .gt x y = true → y < x) ∧ (if_icmp.holds .gt x y = false → ¬ y < x) := by
  by_cases q : y < x
  · refine ⟨fun _ => q, fun z => ?_⟩; rw [(tlt q).2.2.1] at z; cases z
  · refine ⟨fun z => ?_, fun _ => q⟩; rw [(flt q).2.2.1] at z; cases z
theorem h_le (x y : Int32) : (if_icmp.holds .le x y = true → ¬ y < x) ∧ (if_icmp.holds .le x y = false → y < x) := by
  by_cases q : y < x
  · refine ⟨fun z => ?_, fun _ => q⟩; rw [(tlt q).2.2.2] at z; cases z
  · refine ⟨fun _ => q, fun z => ?_⟩; rw [(flt q).2.2.2] at z; cases z
theorem Run.ifn (hK : Ok Z EL a0 l own nm bytes ml ret R K) (hd : decode bytes pc = .ok (.ifnull o, 3)) (ho : 0 ≤ (pc : Int) + o) (hp : ((pc : Int) + o).toNat = pc') (k : Run Z EL nI K Q W h cl sl pc' L rest) : Run Z EL nI K Q W h cl sl pc L (.null :: rest) := by
  obtain ⟨hx, rfl, rfl, rfl, rfl, -⟩ := id hK
  exact Run.step hK (fun T X t st => XS.ifnullYes X hx rfl (pc0 := pc) rfl hd rfl ho hp st) k
theorem Run.ifr (hK : Ok Z EL a0 l own nm bytes ml ret R K) (hd : decode bytes pc = .ok (.ifnull o, 3)) (k : Run Z EL nI K Q W h cl sl (pc + 3) L rest) : Run Z EL nI K Q W h cl sl pc L (.ref a :: rest) := by
  obtain ⟨hx, rfl, rfl, rfl, rfl, -⟩ := id hK
  exact Run.step hK (fun T X t st => XS.ifnullNo X hx rfl hd rfl st) k
theorem Run.ifnnr (hK : Ok Z EL a0 l own nm bytes ml ret R K) (hd : decode bytes pc = .ok (.ifnonnull o, 3)) (ho : 0 ≤ (pc : Int) + o) (hp : ((pc : Int) + o).toNat = pc') (k : Run Z EL nI K Q W h cl sl pc' L rest) : Run Z EL nI K Q W h cl sl pc L (.ref a :: rest) := by
  obtain ⟨hx, rfl, rfl, rfl, rfl, -⟩ := id hK
  exact Run.step hK (fun T X t st => XT.ifnonnullYes X hx rfl (pc0 := pc) rfl hd rfl ho hp st) k
theorem Run.ifnnn (hK : Ok Z EL a0 l own nm bytes ml ret R K) (hd : decode bytes pc = .ok (.ifnonnull o, 3)) (k : Run Z EL nI K Q W h cl sl (pc + 3) L rest) : Run Z EL nI K Q W h cl sl pc L (.null :: rest) := by
  obtain ⟨hx, rfl, rfl, rfl, rfl, -⟩ := id hK
  exact Run.step hK (fun T X t st => XT.ifnonnullNo X hx rfl hd rfl st) k
theorem Run.cast (hK : Ok Z EL a0 l own nm bytes ml ret R K) {Kc : String} {index : Nat} (w : (Jvm.Cond.classLink own index Kc).before a0 Z = true) (F : Ins Z h a Kc true) (hd : decode bytes pc = .ok (.checkcast index, 3)) (k : Run Z EL nI K Q W h cl sl (pc + 3) L (.ref a :: rest)) : Run Z EL nI K Q W h cl sl pc L (.ref a :: rest) := by
  obtain ⟨hx, rfl, rfl, rfl, rfl, -⟩ := id hK
  refine Run.same hK (fun T vm0 locs X hZ hown e => ?_) k
  exact castY X hx hZ hown w e F (g := mkF K.m pc L (.ref a :: rest)) rfl rfl hd
theorem Run.castn (hK : Ok Z EL a0 l own nm bytes ml ret R K) {index : Nat} (hd : decode bytes pc = .ok (.checkcast index, 3)) (k : Run Z EL nI K Q W h cl sl (pc + 3) L (.null :: rest)) : Run Z EL nI K Q W h cl sl pc L (.null :: rest) := by
  obtain ⟨hx, rfl, rfl, rfl, rfl, -⟩ := id hK
  refine Run.same hK (fun T vm0 locs X hZ hown e => ⟨T, X, e, ?_⟩) k
  exact X.checkcastNull hx (g := mkF K.m pc L (.null :: rest)) rfl rfl hd
theorem Run.instY (hK : Ok Z EL a0 l own nm bytes ml ret R K) {Kc : String} {index : Nat} (w : (Jvm.Cond.classLink own index Kc).before a0 Z = true) (F : Ins Z h a Kc true) (hd : decode bytes pc = .ok (.instanceof index, 3)) (k : Run Z EL nI K Q W h cl sl (pc + 3) L (.int 1 :: rest)) : Run Z EL nI K Q W h cl sl pc L (.ref a :: rest) := by
  obtain ⟨hx, rfl, rfl, rfl, rfl, -⟩ := id hK
  refine Run.same hK (fun T vm0 locs X hZ hown e => ?_) k
  exact Jvm.RoadKit.instY X hx hZ hown w e F (g := mkF K.m pc L (.ref a :: rest)) rfl rfl hd
theorem Run.instN (hK : Ok Z EL a0 l own nm bytes ml ret R K) {Kc C : String} {index : Nat} (w : (Jvm.Cond.classLink own index Kc).before a0 Z = true) (F : Ins Z h a Kc false) (E : Exa Z h a C) (hd : decode bytes pc = .ok (.instanceof index, 3)) (k : Run Z EL nI K Q W h cl sl (pc + 3) L (.int 0 :: rest)) : Run Z EL nI K Q W h cl sl pc L (.ref a :: rest) := by
  obtain ⟨hx, rfl, rfl, rfl, rfl, -⟩ := id hK
  refine Run.same hK (fun T vm0 locs X hZ hown e => ?_) k
  obtain ⟨cell, cT, h1, h2, h3⟩ := F
  obtain ⟨cell', kc, e1, -, e3, e4, -⟩ := E
  cases h1.symm.trans e1
  obtain ⟨k', q, -⟩ := hZ.alike.2.2 _ _ e3
  obtain ⟨vm', X', st⟩ := Jvm.Sym.instanceofNoAt X hx hown (mvT hZ w) (by rw [e]; exact h1) e4 q (by rw [hZ.alike.findClass]; exact h2) (by rw [hZ.alike.assignable]; simpa [e4] using h3) (g := mkF K.m pc L (.ref a :: rest)) rfl rfl hd
  exact ⟨_, X', e, st⟩
theorem Run.instNull (hK : Ok Z EL a0 l own nm bytes ml ret R K) {index : Nat} (hd : decode bytes pc = .ok (.instanceof index, 3)) (k : Run Z EL nI K Q W h cl sl (pc + 3) L (.int 0 :: rest)) : Run Z EL nI K Q W h cl sl pc L (.null :: rest) := by
  obtain ⟨hx, rfl, rfl, rfl, rfl, -⟩ := id hK
  refine Run.same hK (fun T vm0 locs X hZ hown e => ⟨T, X, e, ?_⟩) k
  exact X.instanceofNull hx (g := mkF K.m pc L (.null :: rest)) rfl rfl hd
/-- if_acmp: same: whether the two are one -/
theorem Run.acmp (hK : Ok Z EL a0 l own nm bytes ml ret R K) {cd : ACond} {u v : Value} (h1 : u.isRef = true) (h2 : v.isRef = true) {same : Bool} (hq : decide (u = v) = same) (hd : decode bytes pc = .ok (.if_acmp cd o, 3)) (ho : 0 ≤ (pc : Int) + o) (hp : pc' = if acV cd same = true then ((pc : Int) + o).toNat else pc + 3)
    (k : Run Z EL nI K Q W h cl sl pc' L rest) : Run Z EL nI K Q W h cl sl pc L (v :: u :: rest) := by
  obtain ⟨hx, rfl, rfl, rfl, rfl, -⟩ := id hK
  refine Run.same hK (fun T vm0 locs X hZ hown e => ⟨T, X, e, fun t st => ?_⟩) k
  exact Jvm.RoadKit.acmp X hx (g := mkF K.m pc L (v :: u :: rest)) rfl h1 h2 (pc0 := pc) rfl hd rfl hq ho hp st
theorem Run.irem (hK : Ok Z EL a0 l own nm bytes ml ret R K) (hd : decode bytes pc = .ok (.irem, 1)) (hy : y ≠ 0) (k : Run Z EL nI K Q W h cl sl (pc + 1) L (.int (x % y) :: rest)) : Run Z EL nI K Q W h cl sl pc L (.int y :: .int x :: rest) := by
  obtain ⟨hx, rfl, rfl, rfl, rfl, -⟩ := id hK
  refine Run.same hK (fun T vm0 locs X hZ hown e => ⟨T, X, e, fun t st => ?_⟩) k
  exact iremM X hx (g := mkF K.m pc L (.int y :: .int x :: rest)) rfl hd rfl hy st
end Branches
end Jvm.OwnK
namespace Jvm.OwnK
open Sem ClassFile Op Lib Jvm.RoadKit
theorem tI0 : (0 : Int32).toInt = 0 := rfl
theorem c16 {x : Int32} (h0 : ¬ x < 0) (h1 : ¬ (65535 : Int32) < x) : x.toUInt32.toUInt16.toUInt32.toInt32 = x := by
  have q := c_i2c x
  rw [Int32.lt_iff_toInt_lt] at h0 h1
  have e1 : (0 : Int32).toInt = 0 := rfl
  have e2 : (65535 : Int32).toInt = 65535 := rfl
  apply Int32.toInt_inj.mp; omega
theorem lt255 {x : Int32} (h : ¬ (255 : Int32) < x) : ¬ (65535 : Int32) < x := fun q => h (Int32.lt_trans (by decide) q)
/-- a char below 256, as i2c, castore and ireturn leave it -/
theorem nc {x : Int32} (h : ¬ x < 0 ∧ ¬ (255 : Int32) < x) : nar .char x = x := c16 h.1 (lt255 h.2)
theorem nrc {x : Int32} (h : ¬ x < 0 ∧ ¬ (255 : Int32) < x) : narrow .char (.int x) = .int x := by rw [show narrow .char (.int x) = .int x.toUInt32.toUInt16.toUInt32.toInt32 from rfl, c16 h.1 (lt255 h.2)]
theorem m255 (x : Int32) : ¬ (x &&& 255) < 0 ∧ ¬ (255 : Int32) < (x &&& 255) := by
  have q := c_and x 255 (by decide)
  have e2 : (255 : Int32).toInt = 255 := rfl
  rw [Int32.lt_iff_toInt_lt, Int32.lt_iff_toInt_lt, tI0, e2]; omega
theorem i2c255 (x : Int32) : (x &&& (255 : Int32)).toUInt32.toUInt16.toUInt32.toInt32 = x &&& 255 := c16 (m255 x).1 (lt255 (m255 x).2)
theorem ofN {n : Nat} (h : n ≤ 4000) : (Int32.ofNat n).toInt = n := Int32.toInt_ofNat_small (by omega)
theorem ofN_lt {n : Nat} (h : n ≤ 4000) {k : Int32} {m : Nat} (hk : k.toInt = m) : Int32.ofNat n < k ↔ n < m := by rw [Int32.lt_iff_toInt_lt, ofN h, hk]; omega
theorem ofN_sub {n m : Nat} (h : n ≤ 4000) (hm : m ≤ n) : Int32.ofNat n - Int32.ofNat m = Int32.ofNat (n - m) := by
  apply Int32.toInt_inj.mp
  have q := c_isub (Int32.ofNat n) (Int32.ofNat m)
  have r := rng32 (Int32.ofNat n - Int32.ofNat m)
  rw [ofN h, ofN (by omega)] at q
  rw [ofN (by omega)]; omega
theorem ofN_add {n m : Nat} (h : n + m ≤ 4000) : Int32.ofNat n + Int32.ofNat m = Int32.ofNat (n + m) := by
  apply Int32.toInt_inj.mp
  have q := c_iadd (Int32.ofNat n) (Int32.ofNat m)
  have r := rng32 (Int32.ofNat n + Int32.ofNat m)
  rw [ofN (by omega), ofN (by omega)] at q
  rw [ofN h]; omega
end Jvm.OwnK
namespace Jvm.OwnK
open Sem ClassFile Op Lib Jvm.Free Jvm.RoadKit
section Facts
variable {Z : State} {a0 : Array Value} {h h1 h2 : Heap} {a : Addr} {C K O : String} {n : Nat} {ws : List Addr}
theorem Ext.tr (E : Ext h h1) (F : Ext h1 h2) : Ext h h2 := ⟨Nat.le_trans E.1 F.1, fun x c q => F.2 x c (E.2 x c q)⟩
theorem Ext.rf : Ext h h := ⟨Nat.le_refl _, fun _ _ q => q⟩
theorem ext_keep (E : Ext h h1) (F : Keep h1 h2 ws) (hn : ∀ x ∈ ws, h.size ≤ x) : Ext h h2 := ⟨Nat.le_trans E.1 F.1, fun x c q => F.2.1 x c (E.2 x c q) fun hm => absurd (Array.getElem?_eq_some_iff.mp q).1 (Nat.not_lt.mpr (hn x hm))⟩
theorem ext_wr (E : Ext h h1) {i : Nat} {v : Value} (F : Wr h1 h2 a i v) (hn : h.size ≤ a) : Ext h h2 := ext_keep E (Keep.of_wr F) (fun x hx => by cases List.mem_singleton.mp hx; exact hn)
/-- an object of C is none of K: C's superclass is O, which has none -/
theorem ins_no (w1 : (Jvm.Cond.superclass C O).before a0 Z = true) (w2 : (Jvm.Cond.noSuperclass O).before a0 Z = true) (wi : (Jvm.Cond.instantiable K n).before a0 Z = true) (g1 : C ≠ K) (g2 : O ≠ K) (E : Exa Z h a C) : Ins Z h a K false := by
  obtain ⟨t, kt, t1, t2, t3, t4, -⟩ := Cond.instantiable_spec wi
  obtain ⟨c, h0⟩ := found_sup w1
  obtain ⟨p, k, kp, s1, s2, s3, s4, s5, s6, s7⟩ := Cond.superclass_spec h0 w1
  obtain ⟨p', kp', r1, r2, r3, r4, r5⟩ := Cond.noSuperclass_spec w2
  cases s1.symm.trans r1
  obtain ⟨cell, kc, e1, e2, e3, e4, -⟩ := E
  cases h0.symm.trans e2
  have n1 := ids_ne h0 t1 g1
  have n2 := ids_ne s1 t1 g2
  have n3 : ∀ fuel, Z.vm.isSubclassAux fuel p t = false := fun fuel => by
    cases fuel with
    | zero => rfl
    | succ f => simp [Vm.isSubclassAux, n2, r2, r3]
  have n4 : ∀ fuel, Z.vm.isSubclassAux fuel cell.cls t = false := fun fuel => by
    cases fuel with
    | zero => rfl
    | succ f => simp [Vm.isSubclassAux, n1, s2, s4, n3]
  have ti : kt.isInterface = false := by cases q : kt.isInterface <;> simp [q] at t4 ⊢
  refine ⟨cell, t, e1, t1, ?_⟩
  have : Z.vm.assignable cell.cls t = false := by
    show Z.vm.assignableAux (255 + 1) cell.cls t = false
    simp [Vm.assignableAux, n1, s2, t2, s5, t3, ti, Vm.isSubclass, n4]
  rw [this]; simp
/-- .. C's superclass is D, D's is O, which has none -/
theorem ins_no2 {D : String} (w0 : (Jvm.Cond.superclass C D).before a0 Z = true) (w1 : (Jvm.Cond.superclass D O).before a0 Z = true) (w2 : (Jvm.Cond.noSuperclass O).before a0 Z = true) (wi : (Jvm.Cond.instantiable K n).before a0 Z = true) (g0 : C ≠ K) (g1 : D ≠ K) (g2 : O ≠ K) (E : Exa Z h a C) : Ins Z h a K false := by
  obtain ⟨t, kt, t1, t2, t3, t4, -⟩ := Cond.instantiable_spec wi
  obtain ⟨c, h0⟩ := found_sup w0
  obtain ⟨d, k0, kd, u1, u2, u3, u4, u5, u6, u7⟩ := Cond.superclass_spec h0 w0
  obtain ⟨p, k, kp, s1, s2, s3, s4, s5, s6, s7⟩ := Cond.superclass_spec u1 w1
  obtain ⟨p', kp', r1, r2, r3, r4, r5⟩ := Cond.noSuperclass_spec w2
  cases s1.symm.trans r1
  obtain ⟨cell, kc, e1, e2, e3, e4, -⟩ := E
  cases h0.symm.trans e2
  have n0 := ids_ne h0 t1 g0
  have n1 := ids_ne u1 t1 g1
  have n2 := ids_ne s1 t1 g2
  have n3 : ∀ fuel, Z.vm.isSubclassAux fuel p t = false := fun fuel => by
    cases fuel with
    | zero => rfl
    | succ f => simp [Vm.isSubclassAux, n2, r2, r3]
  have n4 : ∀ fuel, Z.vm.isSubclassAux fuel d t = false := fun fuel => by
    cases fuel with
    | zero => rfl
    | succ f => simp [Vm.isSubclassAux, n1, s2, s4, n3]
  have n5 : ∀ fuel, Z.vm.isSubclassAux fuel cell.cls t = false := fun fuel => by
    cases fuel with
    | zero => rfl
    | succ f => simp [Vm.isSubclassAux, n0, u2, u4, n4]
  have ti : kt.isInterface = false := by cases q : kt.isInterface <;> simp [q] at t4 ⊢
  refine ⟨cell, t, e1, t1, ?_⟩
  have : Z.vm.assignable cell.cls t = false := by
    show Z.vm.assignableAux (255 + 1) cell.cls t = false
    simp [Vm.assignableAux, n0, u2, t2, u5, t3, ti, Vm.isSubclass, n5]
  rw [this]; simp
theorem and3 (x : Int32) : x &&& 3 = 0 ∨ x &&& 3 = 1 ∨ x &&& 3 = 2 ∨ x &&& 3 = 3 := by
  have q := c_mask x 3 2 (by decide) (by decide)
  have e : ∀ k : Int32, (x &&& 3).toInt = k.toInt → x &&& 3 = k := fun k h => Int32.toInt_inj.mp h
  have h0 := e 0; have h1 := e 1; have h2 := e 2; have h3 := e 3
  have e0 : (0 : Int32).toInt = 0 := rfl
  have e1 : (1 : Int32).toInt = 1 := rfl
  have e2 : (2 : Int32).toInt = 2 := rfl
  have e3 : (3 : Int32).toInt = 3 := rfl
  rw [e0] at h0; rw [e1] at h1; rw [e2] at h2; rw [e3] at h3
  have : x.toInt % ((2 ^ 2 : Nat) : Int) = 0 ∨ x.toInt % ((2 ^ 2 : Nat) : Int) = 1 ∨ x.toInt % ((2 ^ 2 : Nat) : Int) = 2 ∨ x.toInt % ((2 ^ 2 : Nat) : Int) = 3 := by omega
  rcases this with z | z | z | z
  · exact Or.inl (h0 (q.trans z))
  · exact Or.inr (Or.inl (h1 (q.trans z)))
  · exact Or.inr (Or.inr (Or.inl (h2 (q.trans z))))
  · exact Or.inr (Or.inr (Or.inr (h3 (q.trans z))))
end Facts
end Jvm.OwnK
namespace Jvm.OwnK
open Sem ClassFile Op Lib Jvm.RoadKit
theorem getD_mapI (cs : List Int32) (i : Nat) : (cs.map Value.int).getD i (.int 0) = .int (cs.getD i 0) := by
  simp only [List.getD_eq_getElem?_getD, List.getElem?_map]
  cases cs[i]? <;> rfl
theorem set_map (cs : List Int32) (i n : Nat) (c : Int32) (hn : n = cs.length) : setv (cs.map Value.int) n i (.int 0) (.int c) = (cs.set i c).map Value.int := by
  unfold setv; simp [hn, List.map_set]
theorem set_eq {cs : List Int32} {i : Nat} {c : Int32} (hi : i < cs.length) : cs.set i c = cs ↔ c = cs.getD i 0 := by
  constructor
  · intro h
    have q : (cs.set i c).getD i 0 = cs.getD i 0 := by rw [h]
    simpa [List.getD_eq_getElem?_getD, hi] using q
  · rintro rfl
    refine List.ext_getElem (by simp) fun j h1 h2 => ?_
    rw [List.getElem_set]
    split
    · rename_i e; subst e; simp [List.getD_eq_getElem?_getD, hi]
    · rfl
theorem ofN_nat {n : Nat} (h : n ≤ 4000) : (Int32.ofNat n).toNatClampNeg = n := by
  have := ofN h
  simp only [Int32.toNatClampNeg, this]; omega
theorem ofN_nn {n : Nat} (h : n ≤ 4000) : ¬ Int32.ofNat n < 0 := by rw [Int32.lt_iff_toInt_lt, ofN h, tI0]; omega
end Jvm.OwnK
namespace Jvm.OwnI
open Jvm.RoadKit Jvm.OwnK Jvm.Free
/-! plain lists: sorted keys, words; no program in sight -/
def key (e : Int32) : Int32 := XT.ushr e 6
def bit (e : Int32) : Int64 := (1 : Int64) <<< (e.toInt64 &&& 63)
def gt : List Int32 → List Int64 → Int32 → Int64
  | k' :: ks, w :: ws, k => if k' = k then w else gt ks ws k
  | _, _, _ => 0
theorem gt_no : ∀ {ks : List Int32} {ws : List Int64} {k : Int32}, k ∉ ks → gt ks ws k = 0
  | [], _, _, _ => by simp [gt]
  | _ :: _, [], _, _ => by simp [gt]
  | k' :: ks, w :: ws, k, h => by
    rw [List.mem_cons, not_or] at h
    simp only [gt]; rw [if_neg (fun z => h.1 z.symm)]; exact gt_no h.2
theorem gt_at : ∀ {ks : List Int32} {ws : List Int64} {i : Nat}, ks.Pairwise (· < ·) → ks.length = ws.length → i < ks.length → gt ks ws (ks.getD i 0) = ws.getD i 0
  | [], _, _, _, _, h => nomatch h
  | _ :: _, [], _, _, h, _ => nomatch h
  | k :: ks, w :: ws, 0, _, _, _ => by simp [gt]
  | k :: ks, w :: ws, i + 1, hp, hl, hi => by
    have hi' : i < ks.length := Nat.lt_of_succ_lt_succ hi
    have q : k < ks.getD i 0 := by
      have := (List.pairwise_cons.mp hp).1 _ (List.getElem_mem hi')
      simpa [List.getD_eq_getElem?_getD, hi'] using this
    simp only [gt, List.getD_cons_succ]
    rw [if_neg (fun z => absurd q (by rw [← z]; exact Int32.lt_irrefl)), gt_at (List.pairwise_cons.mp hp).2 (Nat.succ.inj hl) hi']
theorem gt_set : ∀ {ks : List Int32} {ws : List Int64} {i : Nat} (v : Int64) (k : Int32), ks.Pairwise (· < ·) → ks.length = ws.length → i < ks.length → gt ks (ws.set i v) k = if ks.getD i 0 = k then v else gt ks ws k
  | [], _, _, _, _, _, _, h => nomatch h
  | _ :: _, [], _, _, _, _, h, _ => nomatch h
  | k' :: ks, w :: ws, 0, v, k, _, _, _ => by simp only [gt, List.set_cons_zero, List.getD_cons_zero]; split <;> rfl
  | k' :: ks, w :: ws, i + 1, v, k, hp, hl, hi => by
    have hi' : i < ks.length := Nat.lt_of_succ_lt_succ hi
    have q : k' < ks.getD i 0 := by
      have := (List.pairwise_cons.mp hp).1 _ (List.getElem_mem hi')
      simpa [List.getD_eq_getElem?_getD, hi'] using this
    simp only [gt, List.set_cons_succ, List.getD_cons_succ]
    rw [gt_set v k (List.pairwise_cons.mp hp).2 (Nat.succ.inj hl) hi']
    by_cases e : k' = k
    · rw [if_pos e, if_pos e, if_neg (fun z => absurd q (by rw [z, e]; exact Int32.lt_irrefl))]
    · rw [if_neg e, if_neg e]
def insA {α : Type} (l : List α) (p : Nat) (x : α) : List α := l.take p ++ x :: l.drop p
theorem gt_ins : ∀ {ks : List Int32} {ws : List Int64} {p : Nat} (x : Int32) (v : Int64) (k : Int32), ks.length = ws.length → p ≤ ks.length → x ∉ ks → gt (insA ks p x) (insA ws p v) k = if x = k then v else gt ks ws k
  | ks, ws, 0, x, v, k, _, _, _ => by simp [insA, gt]
  | [], _, _ + 1, _, _, _, _, h, _ => nomatch h
  | _ :: _, [], _ + 1, _, _, _, h, _, _ => nomatch h
  | k' :: ks, w :: ws, p + 1, x, v, k, hl, hp, hx => by
    rw [List.mem_cons, not_or] at hx
    have ih := gt_ins (p := p) x v k (Nat.succ.inj hl) (Nat.le_of_succ_le_succ hp) hx.2
    show gt (k' :: insA ks p x) (w :: insA ws p v) k = _
    simp only [gt]; rw [ih]
    by_cases e : k' = k
    · rw [if_pos e, if_pos e, if_neg (fun z => hx.1 (z.trans e.symm))]
    · rw [if_neg e, if_neg e]
theorem ins_len {α : Type} {l : List α} {p : Nat} {x : α} (h : p ≤ l.length) : (insA l p x).length = l.length + 1 := by
  unfold insA; simp only [List.length_append, List.length_take, List.length_cons, List.length_drop]; omega
theorem ins_sorted : ∀ {ks : List Int32} {p : Nat} {x : Int32}, ks.Pairwise (· < ·) → p ≤ ks.length → (∀ i, i < p → ks.getD i 0 < x) → (∀ i, p ≤ i → i < ks.length → x < ks.getD i 0) → (insA ks p x).Pairwise (· < ·)
  | ks, 0, x, hs, _, _, h2 => by
    simp only [insA, List.take_zero, List.nil_append, List.drop_zero, List.pairwise_cons]
    refine ⟨fun y hy => ?_, hs⟩
    obtain ⟨i, hi, rfl⟩ := List.getElem_of_mem hy
    have := h2 i (Nat.zero_le _) hi
    simpa [List.getD_eq_getElem?_getD, hi] using this
  | [], _ + 1, _, _, h, _, _ => nomatch h
  | k :: ks, p + 1, x, hs, hp, h1, h2 => by
    have ih := ins_sorted (ks := ks) (p := p) (x := x) (List.pairwise_cons.mp hs).2 (Nat.le_of_succ_le_succ hp) (fun i hi => by simpa using h1 (i + 1) (Nat.succ_lt_succ hi)) (fun i hi hl => by simpa using h2 (i + 1) (Nat.succ_le_succ hi) (Nat.succ_lt_succ hl))
    show (k :: insA ks p x).Pairwise (· < ·)
    rw [List.pairwise_cons]
    refine ⟨fun y hy => ?_, ih⟩
    have hk : k < x := by simpa using h1 0 (Nat.succ_pos _)
    unfold insA at hy
    rcases List.mem_append.mp hy with q | q
    · exact (List.pairwise_cons.mp hs).1 y (List.mem_of_mem_take q)
    · rcases List.mem_cons.mp q with rfl | q
      · exact hk
      · exact (List.pairwise_cons.mp hs).1 y (List.mem_of_mem_drop q)
theorem not_in {ks : List Int32} {p : Nat} {x : Int32} (h1 : ∀ i, i < p → ks.getD i 0 < x) (h2 : ∀ i, p ≤ i → i < ks.length → x < ks.getD i 0) : x ∉ ks := fun hm => by
  obtain ⟨i, hi, e⟩ := List.getElem_of_mem hm
  have g : ks.getD i 0 = x := by simp [List.getD_eq_getElem?_getD, hi, e]
  rcases Nat.lt_or_ge i p with q | q
  · have := h1 i q; rw [g] at this; exact absurd this Int32.lt_irrefl
  · have := h2 i q hi; rw [g] at this; exact absurd this Int32.lt_irrefl
/-- a well-formed pair of lists that stands for the members M -/
def orA : List Int32 → Int32 → Int64
  | [], _ => 0
  | e :: M, k => if key e = k then orA M k ||| bit e else orA M k
def Rep (ks : List Int32) (ws : List Int64) (M : List Int32) : Prop := ks.Pairwise (· < ·) ∧ ks.length = ws.length ∧ (∀ k ∈ ks, gt ks ws k ≠ 0) ∧ ∀ k, gt ks ws k = orA M k
theorem Rep.nil : Rep [] [] [] := ⟨List.Pairwise.nil, rfl, (fun _ q => nomatch q), fun _ => rfl⟩
def tb (w : Int64) (j : Nat) : Bool := w.toBitVec.getLsbD j
theorem tb_or (a b : Int64) (j : Nat) : tb (a ||| b) j = (tb a j || tb b j) := by simp [tb]
theorem tb_and (a b : Int64) (j : Nat) : tb (a &&& b) j = (tb a j && tb b j) := by simp [tb]
theorem tb_0 (j : Nat) : tb 0 j = false := by simp [tb]
theorem tb_ext {a b : Int64} (h : ∀ j, j < 64 → tb a j = tb b j) : a = b := by
  apply Int64.toBitVec_inj.mp
  apply BitVec.eq_of_getLsbD_eq
  exact h
def lowb (e : Int32) : Nat := (e.toInt % 64).toNat
theorem low_lt (e : Int32) : lowb e < 64 := by unfold lowb; omega
theorem tb_sh : ∀ n, n < 64 → ∀ j, j < 64 → tb ((1 : Int64) <<< Int64.ofNat n) j = decide (j = n) := by decide +kernel
theorem tb_bit (e : Int32) (j : Nat) (hj : j < 64) : tb (bit e) j = decide (j = lowb e) := by
  have q : e.toInt64 &&& 63 = Int64.ofNat (lowb e) := by
    apply Int64.toInt_inj.mp
    rw [c_maskL _ 63 6 (by decide) (by decide), c_i2l, Int64.toInt_ofNat_of_lt (by have := low_lt e; omega)]
    unfold lowb; omega
  unfold bit; rw [q]; exact tb_sh _ (low_lt e) j hj
theorem bit_ne (e : Int32) : bit e ≠ 0 := fun h => by
  have q := tb_bit e (lowb e) (low_lt e)
  rw [h, tb_0] at q; simp at q
theorem or_ne {a b : Int64} (h : b ≠ 0) : a ||| b ≠ 0 := fun z => h (tb_ext fun j _ => by
  have q : tb (a ||| b) j = false := by rw [z]; exact tb_0 j
  rw [tb_or] at q; rw [tb_0]; simp at q; exact q.2)
theorem key_val {e : Int32} (h : ¬ e < 0) : (key e).toInt = e.toInt / 64 := by
  have q := c_iushr e 6 6 (by decide) (by decide)
  rw [Int32.lt_iff_toInt_lt, tI0] at h
  have r := rng32 e
  show (XT.ushr e 6).toInt = _
  unfold XT.ushr; rw [q]
  have : e.toInt % 4294967296 = e.toInt := by omega
  rw [this]; rfl
theorem key_low {e f : Int32} (h : ¬ e < 0) (g : ¬ f < 0) (h1 : key e = key f) (h2 : lowb e = lowb f) : e = f := by
  have a := key_val h; have b := key_val g
  rw [h1] at a
  rw [Int32.lt_iff_toInt_lt, tI0] at h g
  unfold lowb at h2
  apply Int32.toInt_inj.mp; omega
theorem tb_orA (k : Int32) (j : Nat) (hj : j < 64) : ∀ M : List Int32, tb (orA M k) j = true ↔ ∃ e ∈ M, key e = k ∧ lowb e = j
  | [] => by simp [orA, tb_0]
  | e :: M => by
    have ih := tb_orA k j hj M
    unfold orA
    by_cases q : key e = k
    · rw [if_pos q, tb_or, Bool.or_eq_true, ih, tb_bit e j hj]
      constructor
      · rintro (⟨x, hx, r⟩ | r)
        · exact ⟨x, List.mem_cons_of_mem _ hx, r⟩
        · exact ⟨e, List.mem_cons_self .., q, (of_decide_eq_true r).symm⟩
      · rintro ⟨x, hx, r1, r2⟩
        rcases List.mem_cons.mp hx with rfl | hx
        · exact Or.inr (decide_eq_true r2.symm)
        · exact Or.inl ⟨x, hx, r1, r2⟩
    · rw [if_neg q, ih]
      constructor
      · rintro ⟨x, hx, r⟩; exact ⟨x, List.mem_cons_of_mem _ hx, r⟩
      · rintro ⟨x, hx, r1, r2⟩
        rcases List.mem_cons.mp hx with rfl | hx
        · exact absurd r1 q
        · exact ⟨x, hx, r1, r2⟩
theorem sub_iff {A B : List Int32} (hA : ∀ e ∈ A, ¬ e < 0) (hB : ∀ e ∈ B, ¬ e < 0) : (∀ k, orA A k &&& orA B k = orA B k) ↔ ∀ c ∈ B, c ∈ A := by
  constructor
  · intro h c hc
    have q := h (key c)
    have r : tb (orA B (key c)) (lowb c) = true := (tb_orA _ _ (low_lt c) B).mpr ⟨c, hc, rfl, rfl⟩
    rw [← q, tb_and, Bool.and_eq_true] at r
    obtain ⟨e, he, h1, h2⟩ := (tb_orA _ _ (low_lt c) A).mp r.1
    rw [← key_low (hA e he) (hB c hc) h1 h2]; exact he
  · intro h k
    apply tb_ext; intro j hj
    rw [tb_and]
    cases q : tb (orA B k) j with
    | false => simp
    | true =>
      obtain ⟨c, hc, h1, h2⟩ := (tb_orA k j hj B).mp q
      rw [(tb_orA k j hj A).mpr ⟨c, h c hc, h1, h2⟩]; rfl
theorem Rep.set {ks : List Int32} {ws : List Int64} {M : List Int32} (F : Rep ks ws M) {i : Nat} {e : Int32} (hi : i < ks.length) (hk : ks.getD i 0 = key e) : Rep ks (ws.set i (ws.getD i 0 ||| bit e)) (e :: M) := by
  obtain ⟨h1, h2, h3, h4⟩ := F
  have g : ∀ k, gt ks (ws.set i (ws.getD i 0 ||| bit e)) k = orA (e :: M) k := fun k => by
    rw [gt_set _ k h1 h2 hi, hk, ← gt_at h1 h2 hi, hk]; unfold orA
    by_cases q : key e = k
    · rw [if_pos q, if_pos q, q, h4]
    · rw [if_neg q, if_neg q, h4]
  refine ⟨h1, by rw [List.length_set]; exact h2, fun k hm => ?_, g⟩
  rw [g]; unfold orA
  by_cases q : key e = k
  · rw [if_pos q]; exact or_ne (bit_ne e)
  · rw [if_neg q, ← h4]; exact h3 k hm
theorem Rep.ins {ks : List Int32} {ws : List Int64} {M : List Int32} (F : Rep ks ws M) {p : Nat} {e : Int32} (hp : p ≤ ks.length) (g1 : ∀ i, i < p → ks.getD i 0 < key e) (g2 : ∀ i, p ≤ i → i < ks.length → key e < ks.getD i 0) : Rep (insA ks p (key e)) (insA ws p (0 ||| bit e)) (e :: M) := by
  obtain ⟨h1, h2, h3, h4⟩ := F
  have hx := not_in g1 g2
  have z : orA M (key e) = 0 := by rw [← h4]; exact gt_no hx
  have g : ∀ k, gt (insA ks p (key e)) (insA ws p (0 ||| bit e)) k = orA (e :: M) k := fun k => by
    rw [gt_ins _ _ k h2 hp hx]; unfold orA
    by_cases q : key e = k
    · rw [if_pos q, if_pos q, ← q, z]
    · rw [if_neg q, if_neg q, h4]
  refine ⟨ins_sorted h1 hp g1 g2, by rw [ins_len hp, ins_len (h2 ▸ hp), h2], fun k hm => ?_, g⟩
  rw [g]; unfold orA
  by_cases q : key e = k
  · rw [if_pos q]; exact or_ne (bit_ne e)
  · rw [if_neg q, ← h4]
    refine h3 k ?_
    unfold insA at hm
    rcases List.mem_append.mp hm with r | r
    · exact List.mem_of_mem_take r
    · rcases List.mem_cons.mp r with r | r
      · exact absurd r.symm q
      · exact List.mem_of_mem_drop r
/-- b's words lie within a's -/
theorem Rep.sub {ka kb A B : List Int32} {wa wb : List Int64} (F : Rep ka wa A) (G : Rep kb wb B) : (∀ i, i < kb.length → gt ka wa (kb.getD i 0) &&& wb.getD i 0 = wb.getD i 0) ↔ ∀ k, orA A k &&& orA B k = orA B k := by
  constructor
  · intro h k
    rw [← F.2.2.2, ← G.2.2.2]
    by_cases q : k ∈ kb
    · obtain ⟨i, hi, e⟩ := List.getElem_of_mem q
      have g : kb.getD i 0 = k := by simp [List.getD_eq_getElem?_getD, hi, e]
      have r := h i hi
      rw [← gt_at G.1 G.2.1 hi, g] at r; exact r
    · rw [gt_no (ks := kb) q]; simp
  · intro h i hi
    rw [← gt_at G.1 G.2.1 hi, F.2.2.2, G.2.2.2]; exact h _
theorem Rep.nz {ks : List Int32} {ws : List Int64} {M : List Int32} (F : Rep ks ws M) {i : Nat} (hi : i < ks.length) : ws.getD i 0 ≠ 0 := by
  rw [← gt_at F.1 F.2.1 hi]
  refine F.2.2.1 _ ?_
  rw [show ks.getD i 0 = ks[i] by simp [List.getD_eq_getElem?_getD, hi]]; exact List.getElem_mem _
theorem cp_pad  {vs : List Value} {n m : Nat} (d : Value) (h : vs.length ≤ n) (hm : n ≤ m) (i : Nat) : vs.getD i d = ((List.replicate m d).take 0 ++ (List.range n).map (fun i => vs.getD (0 + i) d) ++ (List.replicate m d).drop (0 + n)).getD i d := by
  simp only [List.getD_eq_getElem?_getD, List.take_zero, List.nil_append, Nat.zero_add]
  rcases Nat.lt_or_ge i n with q | q
  · rw [List.getElem?_append_left (by simp; exact q)]
    simp [List.getElem?_map, List.getElem?_range, q]
  · rw [List.getElem?_append_right (by simp; exact q), List.getElem?_eq_none (by omega : vs.length ≤ i)]
    simp only [List.getElem?_drop, List.getElem?_replicate]
    split <;> rfl
theorem set_pad  {vs : List Value} {n i : Nat} (d v : Value) (hi : i < vs.length) (j : Nat) : (vs.set i v).getD j d = (setv vs n i d v).getD j d := by
  unfold setv
  simp only [List.getD_eq_getElem?_getD, List.getElem?_set, List.length_append, List.length_replicate]
  by_cases q : i = j
  · rw [if_pos q, if_pos q, if_pos hi, if_pos (by omega)]
  · rw [if_neg q, if_neg q]
    rcases Nat.lt_or_ge j vs.length with r | r
    · rw [List.getElem?_append_left r]
    · rw [List.getElem?_append_right r, List.getElem?_eq_none r, List.getElem?_replicate]
      split <;> rfl
theorem shift_pad  {vs : List Value} {n p : Nat} (d x : Value) (hp : p ≤ vs.length) (hn : vs.length < n) (i : Nat) :
    (insA vs p x).getD i d = (setv ((vs ++ List.replicate (n - vs.length) d).take (p + 1) ++ (List.range (vs.length - p)).map (fun i => vs.getD (p + i) d) ++ (vs ++ List.replicate (n - vs.length) d).drop (p + 1 + (vs.length - p))) n p d x).getD i d := by
  have lT : ((vs ++ List.replicate (n - vs.length) d).take (p + 1)).length = p + 1 := by simp only [List.length_take, List.length_append, List.length_replicate]; omega
  have lU : ((List.range (vs.length - p)).map (fun i => vs.getD (p + i) d)).length = vs.length - p := by simp
  unfold setv insA
  simp only [List.getD_eq_getElem?_getD] at lU ⊢
  have lP : (vs.take p).length = p := by rw [List.length_take]; omega
  rcases Nat.lt_trichotomy i p with q | q | q
  · rw [List.getElem?_append_left (by omega), List.getElem?_set_ne (by omega), List.append_assoc, List.append_assoc, List.getElem?_append_left (by omega), List.getElem?_take, List.getElem?_take, if_pos q, if_pos (by omega), List.getElem?_append_left (by omega)]
  · subst q
    rw [List.getElem?_append_right (by omega), lP, Nat.sub_self, List.getElem?_cons_zero, List.getElem?_set_self (by simp only [List.length_append, lT]; omega)]
  · rw [List.getElem?_append_right (by omega), lP, show i - p = (i - p - 1) + 1 by omega, List.getElem?_cons_succ, List.getElem?_drop, List.getElem?_set_ne (by omega), List.append_assoc, List.append_assoc, List.getElem?_append_right (by omega), lT]
    rcases Nat.lt_or_ge i (vs.length + 1) with r | r
    · rw [List.getElem?_append_left (by omega), List.getElem?_map, List.getElem?_range (by omega)]
      show _ = vs[p + (i - (p + 1))]?.getD d
      rw [show p + (i - p - 1) = p + (i - (p + 1)) by omega]
    · rw [List.getElem?_append_right (by omega), lU, List.getElem?_eq_none (by omega : vs.length ≤ p + (i - p - 1))]
      rw [List.getElem?_append]
      split
      · rw [List.getElem?_drop, List.getElem?_append_right (by omega), List.getElem?_replicate]
        split <;> rfl
      · rw [List.getElem?_replicate]
        split <;> rfl
theorem ins_map {α β : Type} (f : α → β) (l : List α) (p : Nat) (x : α) : (insA l p x).map f = insA (l.map f) p (f x) := by simp [insA]
theorem getD_mapJ (cs : List Int64) (i : Nat) : (cs.map Value.long).getD i (.long 0) = .long (cs.getD i 0) := by
  simp only [List.getD_eq_getElem?_getD, List.getElem?_map]
  cases cs[i]? <;> rfl
theorem ins_get {α : Type} {l : List α} {p : Nat} (x d : α) (h : p ≤ l.length) : (insA l p x).getD p d = x := by
  have lP : (l.take p).length = p := by rw [List.length_take]; omega
  unfold insA
  rw [List.getD_eq_getElem?_getD, List.getElem?_append_right (by omega), lP, Nat.sub_self]; rfl
theorem ins_set {α : Type} {l : List α} {p : Nat} (x y : α) (h : p ≤ l.length) : (insA l p x).set p y = insA l p y := by
  have lP : (l.take p).length = p := by rw [List.length_take]; omega
  unfold insA
  rw [List.set_append_right _ _ (by omega), lP, Nat.sub_self]; rfl
end Jvm.OwnI
namespace Jvm.OwnP
open Jvm.RoadKit Jvm.OwnK Jvm.Free Jvm.OwnI
/-! the number of bits set, as Long.bitCount reckons it -/
theorem and_step (b y c m : Nat) (hb : b < 256) (hc : c < 256) : (b + 256 * y) &&& (c + 256 * m) = (b &&& c) + 256 * (y &&& m) := by
  have h1 : ((b + 256 * y) &&& (c + 256 * m)) % 2 ^ 8 = (b &&& c) := by
    rw [Nat.and_mod_two_pow, show (b + 256 * y) % 2 ^ 8 = b by omega, show (c + 256 * m) % 2 ^ 8 = c by omega]
  have h2 : ((b + 256 * y) &&& (c + 256 * m)) / 2 ^ 8 = (y &&& m) := by
    rw [Nat.and_div_two_pow, show (b + 256 * y) / 2 ^ 8 = y by omega, show (c + 256 * m) / 2 ^ 8 = m by omega]
  omega
def mk (c : Nat) : Nat → Nat
  | 0 => 0
  | n + 1 => c + 256 * mk c n
def g1 (n x : Nat) : Nat := x - ((x / 2) &&& mk 0x55 n)
def g2 (n x : Nat) : Nat := (x &&& mk 0x33 n) + ((x / 4) &&& mk 0x33 n)
def g3 (n x : Nat) : Nat := (x + x / 16) &&& mk 0x0f n
def q1 (b : Nat) : Nat := b - ((b / 2) &&& 0x55)
def q2 (b : Nat) : Nat := (b &&& 0x33) + ((b / 4) &&& 0x33)
def q3 (b : Nat) : Nat := (b + b / 16) &&& 0x0f
def pcb (b : Nat) : Nat := q3 (q2 (q1 b))
theorem k1 : ∀ b, b < 256 → ∀ c, c < 2 → (b / 2 + 128 * c) &&& 0x55 = (b / 2) &&& 0x55 := by decide +kernel
theorem k2 : ∀ b, b < 256 → ∀ c, c < 4 → (b / 4 + 64 * c) &&& 0x33 = (b / 4) &&& 0x33 := by decide +kernel
theorem k0 : ∀ b, b < 256 → ((b / 2) &&& 0x55) ≤ b ∧ q1 b < 256 ∧ q2 (q1 b) < 256 ∧ q2 (q1 b) / 16 ≤ 4 ∧ q2 (q1 b) % 16 ≤ 4 ∧ pcb b ≤ 8 := by decide +kernel
theorem k3 : ∀ b, b < 256 → b % 16 ≤ 4 → b / 16 ≤ 4 → ∀ c, c < 5 → (b + b / 16 + 16 * c) &&& 0x0f = q3 b := by decide +kernel
theorem and_le_half (x m : Nat) : ((x / 2) &&& m) ≤ x := Nat.le_trans (Nat.and_le_left) (Nat.div_le_self ..)
theorem s1 (n b y : Nat) (hb : b < 256) : g1 (n + 1) (b + 256 * y) = q1 b + 256 * g1 n y := by
  have h : (b + 256 * y) / 2 = (b / 2 + 128 * (y % 2)) + 256 * (y / 2) := by omega
  unfold g1 q1
  rw [h, show mk 0x55 (n + 1) = 0x55 + 256 * mk 0x55 n from rfl, and_step _ _ _ _ (by omega) (by decide), k1 b hb _ (by omega)]
  have a := (k0 b hb).1; have c := and_le_half y (mk 0x55 n)
  omega
theorem s2 (n b y : Nat) (hb : b < 256) (hr : q2 b < 256) : g2 (n + 1) (b + 256 * y) = q2 b + 256 * g2 n y := by
  have h : (b + 256 * y) / 4 = (b / 4 + 64 * (y % 4)) + 256 * (y / 4) := by omega
  unfold g2 q2
  rw [h, show mk 0x33 (n + 1) = 0x33 + 256 * mk 0x33 n from rfl, and_step _ _ _ _ (by omega) (by decide), and_step _ _ _ _ (by omega) (by decide), k2 b hb _ (by omega)]
  omega
def lowN (n : Nat) (x : Nat) : Prop := match n with
  | 0 => x = 0
  | n + 1 => x % 16 ≤ 4 ∧ x % 256 / 16 ≤ 4 ∧ lowN n (x / 256)
theorem s3 (n b y : Nat) (hb : b < 256) (h1 : b % 16 ≤ 4) (h2 : b / 16 ≤ 4) (h3 : y % 16 ≤ 4) : g3 (n + 1) (b + 256 * y) = q3 b + 256 * g3 n y := by
  have h : (b + 256 * y) + (b + 256 * y) / 16 = (b + b / 16 + 16 * (y % 16)) + 256 * (y + y / 16) := by omega
  unfold g3
  rw [h, show mk 0x0f (n + 1) = 0x0f + 256 * mk 0x0f n from rfl, and_step _ _ _ _ (by omega) (by decide), k3 b hb h1 h2 _ (by omega)]
/-- the bytes' counts, side by side -/
def enc : Nat → Nat → Nat
  | 0, _ => 0
  | n + 1, x => pcb (x % 256) + 256 * enc n (x / 256)
theorem g12 : ∀ (n x : Nat), x < 256 ^ n → g3 n (g2 n (g1 n x)) = enc n x ∧ (g2 n (g1 n x)) % 16 ≤ 4
  | 0, x, h => by
    have : x = 0 := by simpa using h
    subst this; exact ⟨by decide, by decide⟩
  | n + 1, x, h => by
    have hb : x % 256 < 256 := Nat.mod_lt _ (by decide)
    have ih := g12 n (x / 256) (by rw [Nat.pow_succ] at h; omega)
    have k := k0 (x % 256) hb
    have e : x = x % 256 + 256 * (x / 256) := by omega
    have e1 : g1 (n + 1) x = q1 (x % 256) + 256 * g1 n (x / 256) := by
      have := s1 n (x % 256) (x / 256) hb
      rwa [← e] at this
    rw [e1, s2 n _ _ k.2.1 k.2.2.1, s3 n _ _ k.2.2.1 k.2.2.2.2.1 k.2.2.2.1 ih.2, ih.1]
    exact ⟨rfl, by have := k.2.2.2.2.1; omega⟩
def pcN : Nat → Nat → Nat
  | 0, _ => 0
  | n + 1, x => pcb (x % 256) + pcN n (x / 256)
theorem kb : ∀ b, b < 256 → ∀ j, j < 8 → (b / 2 ^ j % 2 = 0) → b + 2 ^ j < 256 ∧ pcb (b + 2 ^ j) = pcb b + 1 := by decide +kernel
theorem pc_add : ∀ (n x j : Nat), j < 8 * n → x / 2 ^ j % 2 = 0 → pcN n (x + 2 ^ j) = pcN n x + 1
  | 0, _, _, h, _ => by omega
  | n + 1, x, j, h, hz => by
    rcases Nat.lt_or_ge j 8 with q | q
    · have z : x % 256 / 2 ^ j % 2 = 0 := by
        have : j = 0 ∨ j = 1 ∨ j = 2 ∨ j = 3 ∨ j = 4 ∨ j = 5 ∨ j = 6 ∨ j = 7 := by omega
        rcases this with rfl | rfl | rfl | rfl | rfl | rfl | rfl | rfl <;> omega
      have k := kb (x % 256) (Nat.mod_lt _ (by decide)) j q z
      have hp : 0 < 2 ^ j := Nat.two_pow_pos j
      obtain ⟨u, hu⟩ : ∃ u, u = 2 ^ j := ⟨_, rfl⟩
      rw [← hu] at k hp ⊢
      unfold pcN
      rw [show (x + u) % 256 = x % 256 + u by omega, show (x + u) / 256 = x / 256 by omega, k.2]; omega
    · have e : 2 ^ j = 256 * 2 ^ (j - 8) := by rw [show (256 : Nat) = 2 ^ 8 from rfl, ← Nat.pow_add]; congr 1; omega
      have z : x / 256 / 2 ^ (j - 8) % 2 = 0 := by rw [Nat.div_div_eq_div_mul, ← e]; exact hz
      have ih := pc_add n (x / 256) (j - 8) (by omega) z
      unfold pcN
      rw [e, show (x + 256 * 2 ^ (j - 8)) % 256 = x % 256 by omega, show (x + 256 * 2 ^ (j - 8)) / 256 = x / 256 + 2 ^ (j - 8) by omega, ih]; omega
/-- the last sums -/
theorem dv (a b m : Nat) (h : a < m) : (a + m * b) / m = b := by rw [Nat.add_mul_div_left _ _ (by omega), Nat.div_eq_of_lt h, Nat.zero_add]
theorem fold (x c0 c1 c2 c3 c4 c5 c6 c7 Y1 Y2 Y3 Y4 Y5 Y6 : Nat) (a0 : c0 ≤ 8) (a1 : c1 ≤ 8) (a2 : c2 ≤ 8) (a3 : c3 ≤ 8) (a4 : c4 ≤ 8) (a5 : c5 ≤ 8) (a6 : c6 ≤ 8) (a7 : c7 ≤ 8) (h0 : x = c0 + 256 * Y1) (h1 : Y1 = c1 + 256 * Y2) (h2 : Y2 = c2 + 256 * Y3) (h3 : Y3 = c3 + 256 * Y4) (h4 : Y4 = c4 + 256 * Y5) (h5 : Y5 = c5 + 256 * Y6) (h6 : Y6 = c6 + 256 * c7) :
    ((x + x / 256) + (x + x / 256) / 65536 + ((x + x / 256) + (x + x / 256) / 65536) / 4294967296) % 128 = c0 + (c1 + (c2 + (c3 + (c4 + (c5 + (c6 + c7)))))) := by
  have b0 : c0 < 256 := by omega
  have b1 : (c0 + c1) + 256 * (c1 + c2) < 65536 := by clear h0 h1 h2 h3 h4 h5 h6; omega
  have b2 : (c0 + c1 + (c2 + c3)) + 256 * (c1 + c2 + (c3 + c4)) + 65536 * (c2 + c3 + (c4 + c5)) + 16777216 * (c3 + c4 + (c5 + c6)) < 4294967296 := by clear h0 h1 h2 h3 h4 h5 h6; omega
  have b3 : c0 + (c1 + (c2 + (c3 + (c4 + (c5 + (c6 + c7)))))) < 128 := by clear h0 h1 h2 h3 h4 h5 h6; omega
  clear a0 a1 a2 a3 a4 a5 a6 a7
  have e1 : x / 256 = Y1 := by rw [h0]; exact dv _ _ _ b0
  have e2 : x + Y1 = ((c0 + c1) + 256 * (c1 + c2)) + 65536 * (Y2 + Y3) := by clear b0 b1 b2 b3 e1; omega
  have e3 : (x + Y1) / 65536 = Y2 + Y3 := by rw [e2]; exact dv _ _ _ b1
  have e4 : x + Y1 + (Y2 + Y3) = ((c0 + c1 + (c2 + c3)) + 256 * (c1 + c2 + (c3 + c4)) + 65536 * (c2 + c3 + (c4 + c5)) + 16777216 * (c3 + c4 + (c5 + c6))) + 4294967296 * (Y4 + Y5 + (Y6 + c7)) := by clear b0 b1 b2 b3 e1 e2 e3; omega
  have e5 : (x + Y1 + (Y2 + Y3)) / 4294967296 = Y4 + Y5 + (Y6 + c7) := by rw [e4]; exact dv _ _ _ b2
  rw [e1, e3, e5]
  have e6 : x + Y1 + (Y2 + Y3) + (Y4 + Y5 + (Y6 + c7)) = (c0 + (c1 + (c2 + (c3 + (c4 + (c5 + (c6 + c7))))))) + 128 * (2 * (Y1 + Y2 + Y3 + Y4 + Y5 + Y6 + c7)) := by clear b0 b1 b2 b3 e1 e2 e3 e4 e5; omega
  rw [e6, Nat.add_mul_mod_self_left]
  exact Nat.mod_eq_of_lt b3
theorem enc_le : ∀ (n z : Nat), 255 * enc n z + 8 ≤ 8 * 256 ^ n
  | 0, _ => by show 255 * 0 + 8 ≤ 8 * 1; omega
  | n + 1, z => by
    have ih := enc_le n (z / 256)
    have d := (k0 (z % 256) (Nat.mod_lt _ (by decide))).2.2.2.2.2
    show 255 * (pcb (z % 256) + 256 * enc n (z / 256)) + 8 ≤ _
    rw [Nat.pow_succ]
    generalize enc n (z / 256) = u at ih ⊢
    generalize 256 ^ n = v at ih ⊢
    generalize pcb (z % 256) = w at d ⊢
    omega
theorem fold8 (y x : Nat) (h : x = enc 8 y) : x < 2 ^ 60 ∧ ((x + x / 256) + (x + x / 256) / 65536 + ((x + x / 256) + (x + x / 256) / 65536) / 4294967296) % 128 = pcN 8 y := by
  have c : ∀ z, pcb (z % 256) ≤ 8 := fun z => (k0 (z % 256) (Nat.mod_lt _ (by decide))).2.2.2.2.2
  constructor
  · have q := enc_le 8 y
    rw [← h] at q
    have e : 8 * 256 ^ 8 = 147573952589676412928 := by decide
    rw [e] at q
    have e2 : (2 : Nat) ^ 60 = 1152921504606846976 := by decide
    rw [e2]; omega
  · exact fold x _ _ _ _ _ _ _ _ _ _ _ _ _ _ (c y) (c (y / 256)) (c (y / 256 / 256)) (c (y / 256 / 256 / 256)) (c (y / 256 / 256 / 256 / 256)) (c (y / 256 / 256 / 256 / 256 / 256)) (c (y / 256 / 256 / 256 / 256 / 256 / 256)) (c (y / 256 / 256 / 256 / 256 / 256 / 256 / 256)) h rfl rfl rfl rfl rfl rfl
def nt (w : Int64) : Nat := w.toBitVec.toNat
theorem nt_lt (w : Int64) : nt w < 2 ^ 64 := w.toBitVec.isLt
theorem nt_and (a b : Int64) : nt (a &&& b) = nt a &&& nt b := by simp [nt]
theorem nt_add (a b : Int64) (h : nt a + nt b < 2 ^ 64) : nt (a + b) = nt a + nt b := by
  have : nt (a + b) = (nt a + nt b) % 2 ^ 64 := by simp [nt]
  rw [this, Nat.mod_eq_of_lt h]
theorem nt_sub (a b : Int64) (h : nt b ≤ nt a) : nt (a - b) = nt a - nt b := by
  have e : nt (a - b) = (2 ^ 64 - nt b + nt a) % 2 ^ 64 := by simp [nt, BitVec.toNat_sub]
  have := nt_lt a; have := nt_lt b
  rw [e]; omega
theorem nt_ushr (a : Int64) (q : Int32) (k : Nat) (h : (q.toInt64.toUInt64 &&& Int64.toUInt64 63).toNat % 64 = k) : nt (XT.ushrL a q) = nt a / 2 ^ k := by
  show (a.toUInt64 >>> (q.toInt64.toUInt64 &&& Int64.toUInt64 63)).toNat = _
  rw [UInt64.toNat_shiftRight, h, Nat.shiftRight_eq_div_pow]; rfl
def v1 (w : Int64) : Int64 := w - (XT.ushrL w (1 : Int32) &&& (6148914691236517205 : Int64))
def v2 (w : Int64) : Int64 := (w &&& (3689348814741910323 : Int64)) + (XT.ushrL w (2 : Int32) &&& (3689348814741910323 : Int64))
def v3 (w : Int64) : Int64 := (w + XT.ushrL w (4 : Int32)) &&& (1085102592571150095 : Int64)
def v4 (w : Int64) (q : Int32) : Int64 := w + XT.ushrL w q
def bcv (w : Int64) : Int32 := (v4 (v4 (v4 (v3 (v2 (v1 w))) 8) 16) 32).toInt32 &&& (127 : Int32)
theorem bcv_eq (w : Int64) : bcv w = Int32.ofNat (pcN 8 (nt w)) := by
  have hw := nt_lt w
  have m5 : nt (6148914691236517205 : Int64) = mk 0x55 8 := by decide
  have m3 : nt (3689348814741910323 : Int64) = mk 0x33 8 := by decide
  have mf : nt (1085102592571150095 : Int64) = mk 0x0f 8 := by decide
  have h1 : nt (v1 w) = g1 8 (nt w) := by
    unfold v1 g1
    have e : nt (XT.ushrL w (1 : Int32) &&& (6148914691236517205 : Int64)) = (nt w / 2 &&& mk 0x55 8) := by rw [nt_and, nt_ushr w 1 1 (by decide), m5]
    rw [nt_sub _ _ (by rw [e]; exact and_le_half _ _), e]
  have b33 : mk 0x33 8 = 3689348814741910323 := by decide
  have h2 : nt (v2 (v1 w)) = g2 8 (g1 8 (nt w)) := by
    unfold v2 g2
    have e1 : nt (v1 w &&& (3689348814741910323 : Int64)) = (g1 8 (nt w) &&& mk 0x33 8) := by rw [nt_and, h1, m3]
    have e2 : nt (XT.ushrL (v1 w) (2 : Int32) &&& (3689348814741910323 : Int64)) = (g1 8 (nt w) / 4 &&& mk 0x33 8) := by rw [nt_and, nt_ushr _ 2 2 (by decide), h1, m3]
    have l1 : (g1 8 (nt w) &&& mk 0x33 8) ≤ mk 0x33 8 := Nat.and_le_right
    have l2 : (g1 8 (nt w) / 4 &&& mk 0x33 8) ≤ mk 0x33 8 := Nat.and_le_right
    rw [nt_add _ _ (by rw [e1, e2]; omega), e1, e2]
  have hg2 : g2 8 (g1 8 (nt w)) ≤ 2 * 3689348814741910323 := by
    have l1 : (g1 8 (nt w) &&& mk 0x33 8) ≤ mk 0x33 8 := Nat.and_le_right
    have l2 : (g1 8 (nt w) / 4 &&& mk 0x33 8) ≤ mk 0x33 8 := Nat.and_le_right
    unfold g2; omega
  have h3 : nt (v3 (v2 (v1 w))) = g3 8 (g2 8 (g1 8 (nt w))) := by
    unfold v3 g3
    have e : nt (XT.ushrL (v2 (v1 w)) (4 : Int32)) = g2 8 (g1 8 (nt w)) / 16 := by rw [nt_ushr _ 4 4 (by decide), h2]
    rw [nt_and, mf, nt_add _ _ (by rw [h2, e]; omega), h2, e]
  rw [(g12 8 (nt w) (by simpa using hw)).1] at h3
  obtain ⟨f1, f2⟩ := fold8 (nt w) _ rfl
  have h4 : nt (v4 (v3 (v2 (v1 w))) 8) = enc 8 (nt w) + enc 8 (nt w) / 256 := by
    unfold v4
    have e : nt (XT.ushrL (v3 (v2 (v1 w))) (8 : Int32)) = enc 8 (nt w) / 256 := by rw [nt_ushr _ 8 8 (by decide), h3]
    rw [nt_add _ _ (by rw [h3, e]; omega), h3, e]
  have h5 : nt (v4 (v4 (v3 (v2 (v1 w))) 8) 16) = (enc 8 (nt w) + enc 8 (nt w) / 256) + (enc 8 (nt w) + enc 8 (nt w) / 256) / 65536 := by
    rw [show v4 (v4 (v3 (v2 (v1 w))) 8) 16 = v4 (v3 (v2 (v1 w))) 8 + XT.ushrL (v4 (v3 (v2 (v1 w))) 8) 16 from rfl]
    have e : nt (XT.ushrL (v4 (v3 (v2 (v1 w))) 8) (16 : Int32)) = (enc 8 (nt w) + enc 8 (nt w) / 256) / 65536 := by rw [nt_ushr _ 16 16 (by decide), h4]
    rw [nt_add _ _ (by rw [h4, e]; omega), h4, e]
  have h6 : nt (v4 (v4 (v4 (v3 (v2 (v1 w))) 8) 16) 32) = ((enc 8 (nt w) + enc 8 (nt w) / 256) + (enc 8 (nt w) + enc 8 (nt w) / 256) / 65536) + ((enc 8 (nt w) + enc 8 (nt w) / 256) + (enc 8 (nt w) + enc 8 (nt w) / 256) / 65536) / 4294967296 := by
    rw [show v4 (v4 (v4 (v3 (v2 (v1 w))) 8) 16) 32 = v4 (v4 (v3 (v2 (v1 w))) 8) 16 + XT.ushrL (v4 (v4 (v3 (v2 (v1 w))) 8) 16) 32 from rfl]
    have e : nt (XT.ushrL (v4 (v4 (v3 (v2 (v1 w))) 8) 16) (32 : Int32)) = ((enc 8 (nt w) + enc 8 (nt w) / 256) + (enc 8 (nt w) + enc 8 (nt w) / 256) / 65536) / 4294967296 := by rw [nt_ushr _ 32 32 (by decide), h5]
    rw [nt_add _ _ (by rw [h5, e]; omega), h5, e]
  have hlt : nt (v4 (v4 (v4 (v3 (v2 (v1 w))) 8) 16) 32) < 2 ^ 63 := by rw [h6]; omega
  have hi : (v4 (v4 (v4 (v3 (v2 (v1 w))) 8) 16) 32).toInt = (nt (v4 (v4 (v4 (v3 (v2 (v1 w))) 8) 16) 32) : Int) := BitVec.toInt_eq_toNat_of_lt (by show 2 * nt _ < _; omega)
  have hm := c_mask (v4 (v4 (v4 (v3 (v2 (v1 w))) 8) 16) 32).toInt32 127 7 (by decide) (by decide)
  have hc := c_l2i (v4 (v4 (v4 (v3 (v2 (v1 w))) 8) 16) 32)
  rw [← h6] at f2
  apply Int32.toInt_inj.mp
  unfold bcv
  rw [hm, ofN (by omega)]
  rw [hi] at hc
  omega
end Jvm.OwnP
namespace Jvm.OwnP
open Jvm.RoadKit Jvm.OwnK Jvm.Free Jvm.OwnI
def pcw (w : Int64) : Nat := pcN 8 (nt w)
theorem tb_nt (w : Int64) (j : Nat) : tb w j = (nt w).testBit j := rfl
theorem sum_at (f g : Int32 → Nat) (k0 : Int32) (d : Nat) (h1 : ∀ k, k ≠ k0 → g k = f k) (h2 : g k0 = f k0 + d) : ∀ ks : List Int32, ks.Pairwise (· < ·) → k0 ∈ ks → (ks.map g).sum = (ks.map f).sum + d
  | [], _, h => nomatch h
  | k :: ks, hp, hm => by
    have hq := List.pairwise_cons.mp hp
    simp only [List.map_cons, List.sum_cons]
    by_cases e : k = k0
    · subst e
      have hn : ks.map g = ks.map f := List.map_congr_left fun x hx => h1 x (fun z => absurd (hq.1 x hx) (by rw [z]; exact Int32.lt_irrefl))
      rw [h2, hn]; omega
    · have ih := sum_at f g k0 d h1 h2 ks hq.2 ((List.mem_cons.mp hm).resolve_left (fun z => e z.symm))
      rw [h1 k e, ih]; omega
def dd : List Int32 → Nat
  | [] => 0
  | e :: M => if e ∈ M then dd M else dd M + 1
theorem nt_sh : ∀ n, n < 64 → nt ((1 : Int64) <<< Int64.ofNat n) = 2 ^ n := by decide +kernel
theorem nt_bit (e : Int32) : nt (bit e) = 2 ^ lowb e := by
  have q : e.toInt64 &&& 63 = Int64.ofNat (lowb e) := by
    apply Int64.toInt_inj.mp
    rw [c_maskL _ 63 6 (by decide) (by decide), c_i2l, Int64.toInt_ofNat_of_lt (by have := low_lt e; omega)]
    unfold lowb; omega
  unfold bit; rw [q]; exact nt_sh _ (low_lt e)
theorem pcw_or (w : Int64) (e : Int32) : pcw (w ||| bit e) = pcw w + (if tb w (lowb e) = true then 0 else 1) := by
  by_cases q : tb w (lowb e) = true
  · rw [if_pos q]
    have : w ||| bit e = w := tb_ext fun j hj => by
      rw [tb_or, tb_bit e j hj]
      by_cases r : j = lowb e
      · rw [r, q]; rfl
      · simp [r]
    rw [this]; rfl
  · rw [if_neg q]
    have hz : w.toBitVec &&& (bit e).toBitVec = 0#64 := by
      apply BitVec.eq_of_getLsbD_eq; intro j hj
      show tb (w &&& bit e) j = _
      rw [tb_and, tb_bit e j hj]
      by_cases r : j = lowb e
      · rw [r]; simp only [Bool.not_eq_true] at q; rw [q]; simp
      · simp [r]
    have h1 : nt (w ||| bit e) = nt w + 2 ^ lowb e := by
      rw [← nt_bit e]
      show ((w ||| bit e).toBitVec).toNat = w.toBitVec.toNat + (bit e).toBitVec.toNat
      rw [← BitVec.toNat_add_of_and_eq_zero hz, BitVec.add_eq_or_of_and_eq_zero _ _ hz]; rfl
    unfold pcw; rw [h1]
    refine pc_add 8 _ _ (by have := low_lt e; omega) ?_
    simp only [Bool.not_eq_true] at q
    rw [tb_nt, Nat.testBit_eq_decide_div_mod_eq] at q
    have := of_decide_eq_false q
    omega
theorem sum_dd {ks : List Int32} (hp : ks.Pairwise (· < ·)) : ∀ M : List Int32, (∀ e ∈ M, ¬ e < 0) → (∀ e ∈ M, key e ∈ ks) → (ks.map fun k => pcw (orA M k)).sum = dd M
  | [], _, _ => by
    have : ∀ l : List Int32, (l.map fun k => pcw (orA [] k)).sum = 0 := fun l => by
      induction l with
      | nil => rfl
      | cons a l ih => simp only [List.map_cons, List.sum_cons, ih]; exact (by decide +kernel : pcw 0 + 0 = 0)
    exact this ks
  | e :: M, hn, hk => by
    have ih := sum_dd hp M (fun x hx => hn x (List.mem_cons_of_mem _ hx)) (fun x hx => hk x (List.mem_cons_of_mem _ hx))
    have ht : tb (orA M (key e)) (lowb e) = true ↔ e ∈ M := by
      rw [tb_orA _ _ (low_lt e)]
      constructor
      · rintro ⟨x, hx, h1, h2⟩
        rw [← key_low (hn x (List.mem_cons_of_mem _ hx)) (hn e (List.mem_cons_self ..)) h1 h2]; exact hx
      · intro hx; exact ⟨e, hx, rfl, rfl⟩
    rw [sum_at (fun k => pcw (orA M k)) (fun k => pcw (orA (e :: M) k)) (key e) (if e ∈ M then 0 else 1) (fun k hk => by simp only [orA]; rw [if_neg (fun z => hk z.symm)]) (by simp only [orA, if_true]; rw [pcw_or]; simp only [ht]) ks hp (hk e (List.mem_cons_self ..)), ih]
    rw [show dd (e :: M) = if e ∈ M then dd M else dd M + 1 from rfl]; split <;> rfl
theorem Rep.keys {ks : List Int32} {ws : List Int64} {M : List Int32} (F : Rep ks ws M) : ∀ e ∈ M, key e ∈ ks := fun e he => by
  refine Classical.byContradiction fun hn => ?_
  have z := F.2.2.2 (key e)
  rw [gt_no hn] at z
  have r : tb (orA M (key e)) (lowb e) = true := (tb_orA _ _ (low_lt e) M).mpr ⟨e, he, rfl, rfl⟩
  rw [← z, tb_0] at r; cases r
theorem Rep.size {ks : List Int32} {ws : List Int64} {M : List Int32} (F : Rep ks ws M) (hn : ∀ e ∈ M, ¬ e < 0) : (ws.map pcw).sum = dd M := by
  rw [← sum_dd F.1 M hn (Rep.keys F)]
  congr 1
  refine List.ext_getElem (by simp [F.2.1]) fun i h1 h2 => ?_
  have hi : i < ks.length := by simpa using h2
  have hw : i < ws.length := by simpa using h1
  have g := gt_at F.1 F.2.1 hi
  rw [F.2.2.2] at g
  simp only [List.getElem_map]
  have e1 : ks.getD i 0 = ks[i] := by simp [List.getD_eq_getElem?_getD, hi]
  have e2 : ws.getD i 0 = ws[i] := by simp [List.getD_eq_getElem?_getD, hw]
  rw [← e1, ← e2, g]
end Jvm.OwnP
namespace Jvm.OwnM
open Jvm.RoadKit Jvm.OwnK Jvm.Free Jvm.OwnI
/-! the merge of two sorted pairs of lists; no program in sight -/
theorem gt_snoc {K : List Int32} {W : List Int64} {x : Int32} (v : Int64) (k : Int32) (h : K.length = W.length) (hx : x ∉ K) : gt (K ++ [x]) (W ++ [v]) k = if x = k then v else gt K W k := by
  have q := gt_ins (p := K.length) x v k h (Nat.le_refl _) hx
  have e1 : insA K K.length x = K ++ [x] := by simp [insA]
  have e2 : insA W K.length v = W ++ [v] := by rw [h]; simp [insA]
  rw [e1, e2] at q; exact q
theorem take_snoc {α : Type} {l : List α} {i : Nat} (d : α) (hi : i < l.length) : l.take (i + 1) = l.take i ++ [l.getD i d] := by
  rw [List.take_succ, List.getD_eq_getElem?_getD, List.getElem?_eq_getElem hi]; rfl
theorem mem_take {ks : List Int32} {i : Nat} {x : Int32} (h : x ∈ ks.take i) : ∃ j, j < i ∧ j < ks.length ∧ ks.getD j 0 = x := by
  obtain ⟨j, hj, e⟩ := List.getElem_of_mem h
  have hl : j < i ∧ j < ks.length := by rw [List.length_take] at hj; omega
  refine ⟨j, hl.1, hl.2, ?_⟩
  rw [List.getElem_take] at e
  simp [List.getD_eq_getElem?_getD, hl.2, e]
theorem srt' {ks : List Int32} (h : ks.Pairwise (· < ·)) {i j : Nat} (hij : i < j) (hj : j < ks.length) : ks.getD i 0 < ks.getD j 0 := by
  have := List.pairwise_iff_getElem.mp h i j (by omega) hj hij
  simpa [List.getD_eq_getElem?_getD, hj, (by omega : i < ks.length)] using this
theorem gt_take {ks : List Int32} {ws : List Int64} {i : Nat} (hs : ks.Pairwise (· < ·)) (hl : ks.length = ws.length) (hi : i < ks.length) (k : Int32) : gt (ks.take (i + 1)) (ws.take (i + 1)) k = if ks.getD i 0 = k then ws.getD i 0 else gt (ks.take i) (ws.take i) k := by
  rw [take_snoc 0 hi, take_snoc 0 (hl ▸ hi)]
  refine gt_snoc _ k (by rw [List.length_take, List.length_take, hl]) (fun hm => ?_)
  obtain ⟨j, h1, h2, e⟩ := mem_take hm
  have q := srt' hs h1 hi
  rw [e] at q; exact absurd q Int32.lt_irrefl
def MI (ak bk : List Int32) (aw bw : List Int64) (i j : Nat) (K : List Int32) (W : List Int64) : Prop :=
  K.Pairwise (· < ·) ∧ K.length = W.length ∧ (∀ k ∈ K, gt K W k ≠ 0) ∧ (∀ k, gt K W k = gt (ak.take i) (aw.take i) k ||| gt (bk.take j) (bw.take j) k) ∧ (∀ x ∈ K, (∀ i', i ≤ i' → i' < ak.length → x < ak.getD i' 0) ∧ (∀ j', j ≤ j' → j' < bk.length → x < bk.getD j' 0)) ∧ K.length ≤ i + j
theorem MI.nil {ak bk : List Int32} {aw bw : List Int64} : MI ak bk aw bw 0 0 [] [] := ⟨List.Pairwise.nil, rfl, (fun _ q => nomatch q), (fun k => by simp [gt]), (fun _ q => nomatch q), Nat.le_refl _⟩
theorem or_comm' (a b : Int64) : a ||| b = b ||| a := tb_ext fun j _ => by rw [tb_or, tb_or, Bool.or_comm]
theorem or_0 (a : Int64) : a ||| 0 = a := tb_ext fun j _ => by rw [tb_or, tb_0, Bool.or_false]
theorem or_assoc' (a b c : Int64) : a ||| b ||| c = a ||| (b ||| c) := tb_ext fun j _ => by rw [tb_or, tb_or, tb_or, tb_or, Bool.or_assoc]
theorem or_z {a b : Int64} (h : a ||| b = 0) : a = 0 ∧ b = 0 :=
  ⟨Classical.byContradiction fun q => or_ne q (by rw [or_comm'] at h; exact h), Classical.byContradiction fun q => or_ne q h⟩
section
variable {ak bk : List Int32} {aw bw : List Int64} {i j : Nat} {K : List Int32} {W : List Int64}
theorem MI.zero (F : MI ak bk aw bw i j K W) {x : Int32} (hx : x ∉ K) : gt (ak.take i) (aw.take i) x = 0 ∧ gt (bk.take j) (bw.take j) x = 0 := by
  have q := F.2.2.2.1 x
  rw [gt_no hx] at q; exact or_z q.symm
theorem MI.snoc (F : MI ak bk aw bw i j K W) {i2 j2 : Nat} {x : Int32} {w : Int64} (hi : i ≤ i2) (hj : j ≤ j2) (hij : i + j + 1 ≤ i2 + j2) (hx : ∀ y ∈ K, y < x) (hw : w ≠ 0)
    (h1 : ∀ i', i2 ≤ i' → i' < ak.length → x < ak.getD i' 0) (h2 : ∀ j', j2 ≤ j' → j' < bk.length → x < bk.getD j' 0)
    (h3 : ∀ k, gt (ak.take i2) (aw.take i2) k ||| gt (bk.take j2) (bw.take j2) k = if x = k then w else gt (ak.take i) (aw.take i) k ||| gt (bk.take j) (bw.take j) k) : MI ak bk aw bw i2 j2 (K ++ [x]) (W ++ [w]) := by
  obtain ⟨f1, f2, f3, f4, f5, f6⟩ := F
  have nx : x ∉ K := fun hm => absurd (hx x hm) Int32.lt_irrefl
  refine ⟨?_, by simp [f2], fun k hm => ?_, fun k => ?_, fun y hy => ?_, by simp; omega⟩
  · rw [List.pairwise_append]
    refine ⟨f1, List.pairwise_singleton .., fun a ha b hb => ?_⟩
    cases List.mem_singleton.mp hb; exact hx a ha
  · rw [gt_snoc w k f2 nx]
    by_cases q : x = k
    · rw [if_pos q]; exact hw
    · rw [if_neg q]
      refine f3 k ?_
      rcases List.mem_append.mp hm with r | r
      · exact r
      · exact absurd (List.mem_singleton.mp r).symm q
  · rw [gt_snoc w k f2 nx, h3, f4]
  · rcases List.mem_append.mp hy with r | r
    · exact ⟨fun i' a b => (f5 y r).1 i' (Nat.le_trans hi a) b, fun j' a b => (f5 y r).2 j' (Nat.le_trans hj a) b⟩
    · cases List.mem_singleton.mp r; exact ⟨h1, h2⟩
theorem MI.left (F : MI ak bk aw bw i j K W) {A : List Int32} (RA : Rep ak aw A) (sb : bk.Pairwise (· < ·)) (hi : i < ak.length) (hb : j < bk.length → ak.getD i 0 < bk.getD j 0) : MI ak bk aw bw (i + 1) j (K ++ [ak.getD i 0]) (W ++ [aw.getD i 0]) := by
  have hx : ∀ y ∈ K, y < ak.getD i 0 := fun y hy => (F.2.2.2.2.1 y hy).1 i (Nat.le_refl _) hi
  have nx : ak.getD i 0 ∉ K := fun hm => absurd (hx _ hm) Int32.lt_irrefl
  obtain ⟨z1, z2⟩ := F.zero nx
  refine F.snoc (by omega) (Nat.le_refl _) (by omega) hx (RA.nz hi) (fun i' a b => srt' RA.1 (by omega) b) (fun j' a b => ?_) (fun k => ?_)
  · rcases Nat.lt_or_ge j j' with r | r
    · exact Int32.lt_trans (hb (by omega)) (srt' sb r b)
    · obtain rfl : j' = j := by omega
      exact hb b
  · rw [gt_take RA.1 RA.2.1 hi]
    by_cases q : ak.getD i 0 = k
    · rw [if_pos q, if_pos q, ← q, z2, or_0]
    · rw [if_neg q, if_neg q]
theorem MI.right (F : MI ak bk aw bw i j K W) {B : List Int32} (RB : Rep bk bw B) (sa : ak.Pairwise (· < ·)) (hj : j < bk.length) (ha : i < ak.length → bk.getD j 0 < ak.getD i 0) : MI ak bk aw bw i (j + 1) (K ++ [bk.getD j 0]) (W ++ [bw.getD j 0]) := by
  have hx : ∀ y ∈ K, y < bk.getD j 0 := fun y hy => (F.2.2.2.2.1 y hy).2 j (Nat.le_refl _) hj
  have nx : bk.getD j 0 ∉ K := fun hm => absurd (hx _ hm) Int32.lt_irrefl
  obtain ⟨z1, z2⟩ := F.zero nx
  refine F.snoc (Nat.le_refl _) (by omega) (by omega) hx (RB.nz hj) (fun i' a b => ?_) (fun j' a b => srt' RB.1 (by omega) b) (fun k => ?_)
  · rcases Nat.lt_or_ge i i' with r | r
    · exact Int32.lt_trans (ha (by omega)) (srt' sa r b)
    · obtain rfl : i' = i := by omega
      exact ha b
  · rw [gt_take RB.1 RB.2.1 hj]
    by_cases q : bk.getD j 0 = k
    · rw [if_pos q, if_pos q, ← q, z1, or_comm', or_0]
    · rw [if_neg q, if_neg q]
theorem MI.both (F : MI ak bk aw bw i j K W) {A B : List Int32} (RA : Rep ak aw A) (RB : Rep bk bw B) (hi : i < ak.length) (hj : j < bk.length) (he : ak.getD i 0 = bk.getD j 0) : MI ak bk aw bw (i + 1) (j + 1) (K ++ [ak.getD i 0]) (W ++ [aw.getD i 0 ||| bw.getD j 0]) := by
  have hx : ∀ y ∈ K, y < ak.getD i 0 := fun y hy => (F.2.2.2.2.1 y hy).1 i (Nat.le_refl _) hi
  refine F.snoc (by omega) (by omega) (by omega) hx (or_ne (RB.nz hj)) (fun i' a b => srt' RA.1 (by omega) b) (fun j' a b => by rw [he]; exact srt' RB.1 (by omega) b) (fun k => ?_)
  rw [gt_take RA.1 RA.2.1 hi, gt_take RB.1 RB.2.1 hj, ← he]
  by_cases q : ak.getD i 0 = k
  · rw [if_pos q, if_pos q, if_pos q]
  · rw [if_neg q, if_neg q, if_neg q]
theorem orA_app (A : List Int32) (k : Int32) : ∀ B : List Int32, orA (B ++ A) k = orA A k ||| orA B k
  | [] => (or_0 _).symm
  | e :: B => by
    show (if key e = k then orA (B ++ A) k ||| bit e else orA (B ++ A) k) = orA A k ||| (if key e = k then orA B k ||| bit e else orA B k)
    rw [orA_app A k B]
    by_cases q : key e = k
    · rw [if_pos q, if_pos q, or_assoc']
    · rw [if_neg q, if_neg q]
theorem MI.rep (F : MI ak bk aw bw i j K W) {A B : List Int32} (RA : Rep ak aw A) (RB : Rep bk bw B) (hi : ak.length ≤ i) (hj : bk.length ≤ j) : Rep K W (B ++ A) := by
  obtain ⟨f1, f2, f3, f4, f5, f6⟩ := F
  refine ⟨f1, f2, f3, fun k => ?_⟩
  rw [f4, orA_app, List.take_of_length_le hi, List.take_of_length_le (by rw [← RA.2.1]; exact hi), List.take_of_length_le hj, List.take_of_length_le (by rw [← RB.2.1]; exact hj), RA.2.2.2, RB.2.2.2]
end
theorem key_all (e : Int32) : (key e).toInt = e.toInt % 4294967296 / 64 := by
  have q := c_iushr e 6 6 (by decide) (by decide)
  show (XT.ushr e 6).toInt = _
  unfold XT.ushr; rw [q]; rfl
theorem key_eq {e x : Int32} (h1 : key e = key x) (h2 : lowb e = lowb x) : e = x := by
  have a := key_all e; have b := key_all x
  rw [h1] at a
  have r1 := rng32 e; have r2 := rng32 x
  unfold lowb at h2
  apply Int32.toInt_inj.mp; omega
/-- membership by a word's bit -/
theorem tb_key {ks : List Int32} {ws : List Int64} {M : List Int32} (F : Rep ks ws M) (x : Int32) : (gt ks ws (key x) &&& bit x = 0) ↔ x ∉ M := by
  rw [F.2.2.2]
  constructor
  · intro h hm
    have r : tb (orA M (key x)) (lowb x) = true := (tb_orA _ _ (low_lt x) M).mpr ⟨x, hm, rfl, rfl⟩
    have q : tb (orA M (key x) &&& bit x) (lowb x) = true := by rw [tb_and, r, tb_bit x _ (low_lt x)]; simp
    rw [h, tb_0] at q; cases q
  · intro hm
    apply tb_ext; intro j hj
    rw [tb_and, tb_bit x j hj, tb_0]
    by_cases q : j = lowb x
    · have r : tb (orA M (key x)) j = false := by
        cases z : tb (orA M (key x)) j with
        | false => rfl
        | true =>
          obtain ⟨e, he, h1, h2⟩ := (tb_orA _ _ hj M).mp z
          exact absurd (show x ∈ M from key_eq h1 (h2.trans q) ▸ he) hm
      rw [r]; rfl
    · simp [q]
/-- a word lengthened by one -/
theorem snoc_pad {vs : List Value} {n : Nat} (d v : Value) (h : vs.length < n) (j : Nat) : (vs ++ [v]).getD j d = (setv vs n vs.length d v).getD j d := by
  unfold setv
  simp only [List.getD_eq_getElem?_getD]
  rcases Nat.lt_trichotomy j vs.length with q | q | q
  · rw [List.getElem?_append_left q, List.getElem?_set_ne (by omega), List.getElem?_append_left q]
  · subst q
    rw [List.getElem?_append_right (Nat.le_refl _), List.getElem?_set_self (by rw [List.length_append, List.length_replicate]; omega), Nat.sub_self]; rfl
  · rw [List.getElem?_eq_none (by rw [List.length_append]; simp; omega), List.getElem?_set_ne (by omega), List.getElem?_append_right (by omega), List.getElem?_replicate]
    split <;> rfl
end Jvm.OwnM
namespace Jvm.Pilot.@@N@@
open Jvm Jvm.ClassFile Sem Op Lib Jvm.Free Jvm.Stand Jvm.LawKit Jvm.RoadKit Bundle Jvm.OwnK Jvm.OwnI Jvm.OwnP Jvm.OwnM Jvm.Pilot.@@N@@.Jvm.D
def Env1 (Z : State) (a0 : Array Value) : Prop := (∀ d ∈ tables_1, d.before a0 Z = true) ∧ ∃ (N1 N2 : Addr) (nk1 nk2 : ClassId), Sta Z Z.heap "com/example/liveness/liveness/IntSet" "NO_KEYS" "[I" (.ref N1) ∧ Arv Z Z.heap N1 nk1 .int 0 [] (.int 0) ∧ Sta Z Z.heap "com/example/liveness/liveness/IntSet" "NO_WORDS" "[J" (.ref N2) ∧ Arv Z Z.heap N2 nk2 .long 0 [] (.long 0)
theorem pd_ii : parseMethodDescriptor "(II)I" = some ⟨[.int, .int], some .int⟩ := by decide +kernel
theorem pd_iii : parseMethodDescriptor "(III)V" = some ⟨[.int, .int, .int], none⟩ := by decide +kernel
theorem pd_bs : parseMethodDescriptor "([IIII)I" = some ⟨[(.array .int), .int, .int, .int], some .int⟩ := by decide +kernel
theorem pd_cpi : parseMethodDescriptor "([II)[I" = some ⟨[(.array .int), .int], some (.array .int)⟩ := by decide +kernel
theorem pd_cpj : parseMethodDescriptor "([JI)[J" = some ⟨[(.array .long), .int], some (.array .long)⟩ := by decide +kernel
theorem pd_i3 : parseMethodDescriptor "([I[JI)V" = some ⟨[(.array .int), (.array .long), .int], none⟩ := by decide +kernel
theorem pd_v : parseMethodDescriptor "()V" = some ⟨[], none⟩ := by decide +kernel
theorem pd_add : parseMethodDescriptor "(I)V" = some ⟨[.int], none⟩ := by decide +kernel
theorem pn_ar : plainName "java/util/Arrays" = true := by first | (simp [plainName, overriddenIn]; done) | decide +kernel
theorem pn_is : plainName "com/example/liveness/liveness/IntSet" = true := by first | (simp [plainName, overriddenIn]; done) | decide +kernel
theorem ofN_lt2 {a b : Nat} (h : a ≤ 4000) (g : b ≤ 4000) : Int32.ofNat a < Int32.ofNat b ↔ a < b := by rw [Int32.lt_iff_toInt_lt, ofN h, ofN g]; omega
theorem i_eq {x y : Int32} (h : ¬ x < y) (g : ¬ y < x) : x = y := by
  rw [Int32.lt_iff_toInt_lt] at h g; apply Int32.toInt_inj.mp; omega
theorem hi_val {b : Nat} (h : b ≤ 4000) : (Int32.ofNat b - (1 : Int32)).toInt = (b : Int) - 1 := by
  have q := c_isub (Int32.ofNat b) 1; have r := rng32 (Int32.ofNat b - 1); have e : (1 : Int32).toInt = 1 := rfl
  rw [ofN h] at q; omega
theorem mid_val {a b : Nat} (h : a < b) (g : b ≤ 1000) : XT.ushr (Int32.ofNat a + (Int32.ofNat b - (1 : Int32))) (1 : Int32) = Int32.ofNat ((a + b - 1) / 2) := by
  have q := c_iadd (Int32.ofNat a) (Int32.ofNat b - 1); have r := rng32 (Int32.ofNat a + (Int32.ofNat b - 1))
  rw [ofN (by omega), hi_val (by omega)] at q
  have s : (Int32.ofNat a + (Int32.ofNat b - 1)).toInt = (a : Int) + (b - 1) := by omega
  have u := c_iushr (Int32.ofNat a + (Int32.ofNat b - 1)) 1 1 (by decide) (by decide)
  apply Int32.toInt_inj.mp
  unfold XT.ushr; rw [u, s, ofN (by omega)]
  omega
theorem neg_val {p : Nat} (h : p ≤ 1000) : (-(Int32.ofNat p + (1 : Int32))).toInt = -(p : Int) - 1 := by
  have q := c_iadd (Int32.ofNat p) 1; have r := rng32 (Int32.ofNat p + 1); have u := c_ineg (Int32.ofNat p + 1); have r2 := rng32 (-(Int32.ofNat p + 1)); have e : (1 : Int32).toInt = 1 := rfl
  rw [ofN (by omega)] at q; omega
theorem back_val {p : Nat} (h : p ≤ 1000) : (-(-(Int32.ofNat p + (1 : Int32)))) - (1 : Int32) = Int32.ofNat p := by
  have q := neg_val h; have u := c_ineg (-(Int32.ofNat p + 1)); have r := rng32 (-(-(Int32.ofNat p + 1))); have v := c_isub (-(-(Int32.ofNat p + 1))) 1; have r2 := rng32 (-(-(Int32.ofNat p + 1)) - 1); have e : (1 : Int32).toInt = 1 := rfl
  apply Int32.toInt_inj.mp; rw [ofN (by omega)]; omega
theorem srt {ks : List Int32} (h : ks.Pairwise (· < ·)) {i j : Nat} (hij : i < j) (hj : j < ks.length) : ks.getD i 0 < ks.getD j 0 := by
  have := List.pairwise_iff_getElem.mp h i j (by omega) hj hij
  simpa [List.getD_eq_getElem?_getD, hj, (by omega : i < ks.length)] using this
def BSr (ks : List Int32) (x r : Int32) : Prop := (∃ i, i < ks.length ∧ ks.getD i 0 = x ∧ r = Int32.ofNat i) ∨ (∃ p, p ≤ ks.length ∧ (∀ i, i < p → ks.getD i 0 < x) ∧ (∀ i, p ≤ i → i < ks.length → x < ks.getD i 0) ∧ r = -(Int32.ofNat p + (1 : Int32)))
def IS (Z : State) (h : Heap) (ow : List Addr) (a : Addr) (ks : List Int32) (ws : List Int64) (n : Nat) : Prop :=
  ∃ (ka wa : Addr) (kk kw : ClassId), Exa Z h a "com/example/liveness/liveness/IntSet" ∧ Fld Z h a "com/example/liveness/liveness/IntSet" "keys" "[I" (.ref ka) ∧ Fld Z h a "com/example/liveness/liveness/IntSet" "words" "[J" (.ref wa) ∧ Fld Z h a "com/example/liveness/liveness/IntSet" "count" "I" (.int (Int32.ofNat ks.length)) ∧ Arv Z h ka kk .int (Int32.ofNat n) (ks.map Value.int) (.int 0) ∧ Arv Z h wa kw .long (Int32.ofNat n) (ws.map Value.long) (.long 0) ∧ Z.heap.size ≤ a ∧ ks.length ≤ n ∧
    ((n = 0 ∧ ow = [a] ∧ ka < Z.heap.size ∧ wa < Z.heap.size) ∨ (n ≠ 0 ∧ ow = [a, ka, wa] ∧ Z.heap.size ≤ ka ∧ Z.heap.size ≤ wa ∧ ka ≠ wa))
theorem IS.ext {Z : State} {h h' : Heap} {ow : List Addr} {a : Addr} {ks : List Int32} {ws : List Int64} {n : Nat} (F : IS Z h ow a ks ws n) (E : Ext h h') : IS Z h' ow a ks ws n := by
  obtain ⟨ka, wa, kk, kw, f1, f2, f3, f4, f5, f6, r⟩ := F
  exact ⟨ka, wa, kk, kw, f1.ext E, f2.ext E, f3.ext E, f4.ext E, f5.ext E, f6.ext E, r⟩
theorem IS.exa {Z : State} {h : Heap} {ow : List Addr} {a : Addr} {ks : List Int32} {ws : List Int64} {n : Nat} (F : IS Z h ow a ks ws n) : Exa Z h a "com/example/liveness/liveness/IntSet" := by
  obtain ⟨ka, wa, kk, kw, f1, r⟩ := F; exact f1
theorem IS.lt {Z : State} {h : Heap} {ow : List Addr} {a : Addr} {ks : List Int32} {ws : List Int64} {n : Nat} (F : IS Z h ow a ks ws n) : ∀ x ∈ ow, x < h.size := by
  obtain ⟨ka, wa, kk, kw, f1, f2, f3, f4, f5, f6, -, -, q⟩ := F
  intro x hx
  rcases q with ⟨-, rfl, -⟩ | ⟨-, rfl, -⟩
  · cases List.mem_singleton.mp hx; exact f1.lt
  · simp only [List.mem_cons, List.not_mem_nil, or_false] at hx
    rcases hx with rfl | rfl | rfl
    · exact f1.lt
    · exact f5.lt
    · exact f6.lt
set_option maxRecDepth 65536 in
set_option maxHeartbeats 40000000 in
theorem c_max {l : Launch} {Z : State} {a0 : Array Value} (G : Env1 Z a0) (x y : Int32) (h : Heap) : Ctr Z [] true l [] (⟨"java/lang/Math", "max", "(II)I"⟩ : MethodName) jdk_29_method_65_code 2 (some .int) ({ frames := 0, cells := 0, slots := 0, locals := 0 } : Room) #[(.int x), (.int y)] h [] (fun v h' => h' = h ∧ v = some (.int (if x < y then y else x))) := by
  obtain ⟨hw, N1, N2, nk1, nk2, NS1, NA1, NS2, NA2⟩ := id G; have hEL := (EW.nil : EW Z a0 [])
  refine Ctr.of_run (a0 := a0) (L0 := #[.val (.int x), .val (.int y)]) (Jvm.Free.JP.mathPlain rfl (by decide +kernel)) hEL (by first | (simp [argsToLocals, Value.category, maxLocals]; done) | rfl) (fun K hK => ?_)
  refine Run.pure hK (seg := [(0, .iload_n 0, 1), (1, .iload_n 1, 1)]) (by decide +kernel) (pc' := 2) (L' := #[.val (.int x), .val (.int y)]) (S' := [(.int y), (.int x)]) rfl ?_
  refine Run.icmp hK (cd := .lt) (o := 7) (by decide +kernel) (by decide) (pc' := 9) rfl (fun q => ?_) (fun q => ?_)
  · replace q := (h_lt _ _).1 q
    refine Run.pure hK (seg := [(9, .iload_n 1, 1)]) (by decide +kernel) (pc' := 10) (L' := #[.val (.int x), .val (.int y)]) (S' := [(.int y)]) rfl ?_
    exact Run.retw hK (i := .ireturn) rfl (Or.inl ⟨rfl, Or.inl rfl, _, rfl⟩) (by decide +kernel) (by decide) (by decide) ⟨rfl, by rw [if_pos q]⟩
  · replace q := (h_lt _ _).2 q
    refine Run.pure hK (seg := [(5, .iload_n 0, 1), (6, .goto 4, 3)]) (by decide +kernel) (pc' := 10) (L' := #[.val (.int x), .val (.int y)]) (S' := [(.int x)]) rfl ?_
    exact Run.retw hK (i := .ireturn) rfl (Or.inl ⟨rfl, Or.inl rfl, _, rfl⟩) (by decide +kernel) (by decide) (by decide) ⟨rfl, by rw [if_neg q]⟩
set_option maxRecDepth 65536 in
set_option maxHeartbeats 40000000 in
theorem c_min {l : Launch} {Z : State} {a0 : Array Value} (G : Env1 Z a0) (x y : Int32) (h : Heap) : Ctr Z [] true l [] (⟨"java/lang/Math", "min", "(II)I"⟩ : MethodName) jdk_29_method_69_code 2 (some .int) ({ frames := 0, cells := 0, slots := 0, locals := 0 } : Room) #[(.int x), (.int y)] h [] (fun v h' => h' = h ∧ v = some (.int (if y < x then y else x))) := by
  obtain ⟨hw, N1, N2, nk1, nk2, NS1, NA1, NS2, NA2⟩ := id G; have hEL := (EW.nil : EW Z a0 [])
  refine Ctr.of_run (a0 := a0) (L0 := #[.val (.int x), .val (.int y)]) (Jvm.Free.JP.mathPlain rfl (by decide +kernel)) hEL (by first | (simp [argsToLocals, Value.category, maxLocals]; done) | rfl) (fun K hK => ?_)
  refine Run.pure hK (seg := [(0, .iload_n 0, 1), (1, .iload_n 1, 1)]) (by decide +kernel) (pc' := 2) (L' := #[.val (.int x), .val (.int y)]) (S' := [(.int y), (.int x)]) rfl ?_
  refine Run.icmp hK (cd := .gt) (o := 7) (by decide +kernel) (by decide) (pc' := 9) rfl (fun q => ?_) (fun q => ?_)
  · replace q := (h_gt _ _).1 q
    refine Run.pure hK (seg := [(9, .iload_n 1, 1)]) (by decide +kernel) (pc' := 10) (L' := #[.val (.int x), .val (.int y)]) (S' := [(.int y)]) rfl ?_
    exact Run.retw hK (i := .ireturn) rfl (Or.inl ⟨rfl, Or.inl rfl, _, rfl⟩) (by decide +kernel) (by decide) (by decide) ⟨rfl, by rw [if_pos q]⟩
  · replace q := (h_gt _ _).2 q
    refine Run.pure hK (seg := [(5, .iload_n 0, 1), (6, .goto 4, 3)]) (by decide +kernel) (pc' := 10) (L' := #[.val (.int x), .val (.int y)]) (S' := [(.int x)]) rfl ?_
    exact Run.retw hK (i := .ireturn) rfl (Or.inl ⟨rfl, Or.inl rfl, _, rfl⟩) (by decide +kernel) (by decide) (by decide) ⟨rfl, by rw [if_neg q]⟩
set_option maxRecDepth 65536 in
set_option maxHeartbeats 40000000 in
theorem c_rc {l : Launch} {Z : State} {a0 : Array Value} (G : Env1 Z a0) (x0 x1 x2 : Int32) (g1 : ¬ x2 < x1) (g2 : ¬ x1 < 0) (g3 : ¬ x0 < x2) (h : Heap) : Ctr Z [] true l [] (⟨"java/util/Arrays", "rangeCheck", "(III)V"⟩ : MethodName) jdk_65_method_30_code 3 none ({ frames := 0, cells := 0, slots := 0, locals := 0 } : Room) #[(.int x0), (.int x1), (.int x2)] h [] (fun v h' => h' = h ∧ v = none) := by
  obtain ⟨hw, N1, N2, nk1, nk2, NS1, NA1, NS2, NA2⟩ := id G; have hEL := (EW.nil : EW Z a0 [])
  refine Ctr.of_run (a0 := a0) (L0 := #[.val (.int x0), .val (.int x1), .val (.int x2)]) (plainFor_of_name pn_ar) hEL (by first | (simp [argsToLocals, Value.category, maxLocals]; done) | rfl) (fun K hK => ?_)
  refine Run.pure hK (seg := [(0, .iload_n 1, 1), (1, .iload_n 2, 1)]) (by decide +kernel) (pc' := 2) (L' := #[.val (.int x0), .val (.int x1), .val (.int x2)]) (S' := [(.int x2), (.int x1)]) rfl ?_
  refine Run.icmp hK (cd := .le) (o := 44) (by decide +kernel) (by decide) (pc' := 46) rfl (fun _ => ?_) (fun q => by replace q := (h_le _ _).2 q; exact absurd q g1)
  refine Run.pure hK (seg := [(46, .iload_n 1, 1)]) (by decide +kernel) (pc' := 47) (L' := #[.val (.int x0), .val (.int x1), .val (.int x2)]) (S' := [(.int x1)]) rfl ?_
  refine Run.ifz hK (cd := .ge) (o := 12) (by decide +kernel) (by decide) (pc' := 59) rfl (fun _ => ?_) (fun q => by replace q := (h_ge _ _).2 q; exact absurd q g2)
  refine Run.pure hK (seg := [(59, .iload_n 2, 1), (60, .iload_n 0, 1)]) (by decide +kernel) (pc' := 61) (L' := #[.val (.int x0), .val (.int x1), .val (.int x2)]) (S' := [(.int x0), (.int x2)]) rfl ?_
  refine Run.icmp hK (cd := .le) (o := 12) (by decide +kernel) (by decide) (pc' := 73) rfl (fun _ => ?_) (fun q => by replace q := (h_le _ _).2 q; exact absurd q g3)
  exact Run.retv hK (by decide +kernel) (by decide) (by decide) ⟨rfl, rfl⟩
set_option maxRecDepth 65536 in
set_option maxHeartbeats 40000000 in
theorem c_bs0 {l : Launch} {Z : State} {a0 : Array Value} (G : Env1 Z a0) (b0 : Addr) (x : Int32) {ks : List Int32} {kb : ClassId} {n : Nat} (h : Heap) (A : Arv Z h b0 kb .int (Int32.ofNat n) (ks.map Value.int) (.int 0)) (hs : ks.Pairwise (· < ·)) (hl : ks.length ≤ n) (hn : n ≤ 64) : Ctr Z [] true l [] (⟨"java/util/Arrays", "binarySearch0", "([IIII)I"⟩ : MethodName) jdk_65_method_59_code 8 (some .int) ({ frames := 0, cells := 0, slots := 0, locals := 0 } : Room) #[(.ref b0), (.int (0 : Int32)), (.int (Int32.ofNat ks.length)), (.int x)] h [] (fun v h' => h' = h ∧ ∃ r, v = some (.int r) ∧ BSr ks x r) := by
  obtain ⟨hw, N1, N2, nk1, nk2, NS1, NA1, NS2, NA2⟩ := id G; have hEL := (EW.nil : EW Z a0 [])
  refine Ctr.of_run (a0 := a0) (L0 := #[.val (.ref b0), .val (.int (0 : Int32)), .val (.int (Int32.ofNat ks.length)), .val (.int x), .unset, .unset, .unset, .unset]) (plainFor_of_name pn_ar) hEL (by first | (simp [argsToLocals, Value.category, maxLocals]; done) | rfl) (fun K hK => ?_)
  have ex : ∀ (a b : Nat) (o6 o7 : Slot), a = b → b ≤ ks.length → (∀ i, i < a → ks.getD i 0 < x) → (∀ i, b ≤ i → i < ks.length → x < ks.getD i 0) → ((o6 = .unset ∧ o7 = .unset) ∨ ∃ y z, o6 = .val (.int y) ∧ o7 = .val (.int z)) → Run Z [] true K (fun v h' => h' = h ∧ ∃ r, v = some (.int r) ∧ BSr ks x r) [] h 0 0 8 #[.val (.ref b0), .val (.int (0 : Int32)), .val (.int (Int32.ofNat ks.length)), .val (.int x), .val (.int (Int32.ofNat a)), .val (.int (Int32.ofNat b - (1 : Int32))), o6, o7] [] := by
    intro a b o6 o7 hab hb i1 i2 ho
    subst hab
    rcases ho with ⟨rfl, rfl⟩ | ⟨y, z, rfl, rfl⟩
    · refine Run.pure hK (seg := [(8, .iload 4, 2), (10, .iload 5, 2)]) (by decide +kernel) (pc' := 12) (L' := #[.val (.ref b0), .val (.int (0 : Int32)), .val (.int (Int32.ofNat ks.length)), .val (.int x), .val (.int (Int32.ofNat a)), .val (.int (Int32.ofNat a - (1 : Int32))), .unset, .unset]) (S' := [(.int (Int32.ofNat a - (1 : Int32))), (.int (Int32.ofNat a))]) rfl ?_
      refine Run.icmp hK (cd := .gt) (o := 54) (by decide +kernel) (by decide) (pc' := 66) rfl (fun _ => ?_) (fun q => by replace q := (h_gt _ _).2 q; rw [Int32.lt_iff_toInt_lt, hi_val (by omega), ofN (by omega)] at q; omega)
      refine Run.pure hK (seg := [(66, .iload 4, 2), (68, .iconst 1, 1), (69, .iadd, 1), (70, .ineg, 1)]) (by decide +kernel) (pc' := 71) (L' := #[.val (.ref b0), .val (.int (0 : Int32)), .val (.int (Int32.ofNat ks.length)), .val (.int x), .val (.int (Int32.ofNat a)), .val (.int (Int32.ofNat a - (1 : Int32))), .unset, .unset]) (S' := [(.int (-((Int32.ofNat a) + (1 : Int32))))]) rfl ?_
      exact Run.retw hK (i := .ireturn) rfl (Or.inl ⟨rfl, Or.inl rfl, _, rfl⟩) (by decide +kernel) (by decide) (by decide) ⟨rfl, _, rfl, Or.inr ⟨a, hb, i1, i2, rfl⟩⟩
    · refine Run.pure hK (seg := [(8, .iload 4, 2), (10, .iload 5, 2)]) (by decide +kernel) (pc' := 12) (L' := #[.val (.ref b0), .val (.int (0 : Int32)), .val (.int (Int32.ofNat ks.length)), .val (.int x), .val (.int (Int32.ofNat a)), .val (.int (Int32.ofNat a - (1 : Int32))), .val (.int y), .val (.int z)]) (S' := [(.int (Int32.ofNat a - (1 : Int32))), (.int (Int32.ofNat a))]) rfl ?_
      refine Run.icmp hK (cd := .gt) (o := 54) (by decide +kernel) (by decide) (pc' := 66) rfl (fun _ => ?_) (fun q => by replace q := (h_gt _ _).2 q; rw [Int32.lt_iff_toInt_lt, hi_val (by omega), ofN (by omega)] at q; omega)
      refine Run.pure hK (seg := [(66, .iload 4, 2), (68, .iconst 1, 1), (69, .iadd, 1), (70, .ineg, 1)]) (by decide +kernel) (pc' := 71) (L' := #[.val (.ref b0), .val (.int (0 : Int32)), .val (.int (Int32.ofNat ks.length)), .val (.int x), .val (.int (Int32.ofNat a)), .val (.int (Int32.ofNat a - (1 : Int32))), .val (.int y), .val (.int z)]) (S' := [(.int (-((Int32.ofNat a) + (1 : Int32))))]) rfl ?_
      exact Run.retw hK (i := .ireturn) rfl (Or.inl ⟨rfl, Or.inl rfl, _, rfl⟩) (by decide +kernel) (by decide) (by decide) ⟨rfl, _, rfl, Or.inr ⟨a, hb, i1, i2, rfl⟩⟩
  have loop : ∀ (m a b : Nat) (o6 o7 : Slot), b - a ≤ m → a ≤ b → b ≤ ks.length → (∀ i, i < a → ks.getD i 0 < x) → (∀ i, b ≤ i → i < ks.length → x < ks.getD i 0) → ((o6 = .unset ∧ o7 = .unset) ∨ ∃ y z, o6 = .val (.int y) ∧ o7 = .val (.int z)) → Run Z [] true K (fun v h' => h' = h ∧ ∃ r, v = some (.int r) ∧ BSr ks x r) [] h 0 0 8 #[.val (.ref b0), .val (.int (0 : Int32)), .val (.int (Int32.ofNat ks.length)), .val (.int x), .val (.int (Int32.ofNat a)), .val (.int (Int32.ofNat b - (1 : Int32))), o6, o7] [] := by
    intro m
    induction m with
    | zero => intro a b o6 o7 hm hab hb i1 i2 ho; exact ex a b o6 o7 (by omega) hb i1 i2 ho
    | succ m ih =>
      intro a b o6 o7 hm hab hb i1 i2 ho
      by_cases hlt : a < b
      case neg => exact ex a b o6 o7 (by omega) hb i1 i2 ho
      rcases ho with ⟨rfl, rfl⟩ | ⟨y, z, rfl, rfl⟩
      · refine Run.pure hK (seg := [(8, .iload 4, 2), (10, .iload 5, 2)]) (by decide +kernel) (pc' := 12) (L' := #[.val (.ref b0), .val (.int (0 : Int32)), .val (.int (Int32.ofNat ks.length)), .val (.int x), .val (.int (Int32.ofNat a)), .val (.int (Int32.ofNat b - (1 : Int32))), .unset, .unset]) (S' := [(.int (Int32.ofNat b - (1 : Int32))), (.int (Int32.ofNat a))]) rfl ?_
        refine Run.icmp hK (cd := .gt) (o := 54) (by decide +kernel) (by decide) (pc' := 66) rfl (fun q => by replace q := (h_gt _ _).1 q; rw [Int32.lt_iff_toInt_lt, hi_val (by omega), ofN (by omega)] at q; omega) (fun _ => ?_)
        refine Run.pure hK (seg := [(15, .iload 4, 2), (17, .iload 5, 2), (19, .iadd, 1), (20, .iconst 1, 1), (21, .iushr, 1)]) (by decide +kernel) (pc' := 22) (L' := #[.val (.ref b0), .val (.int (0 : Int32)), .val (.int (Int32.ofNat ks.length)), .val (.int x), .val (.int (Int32.ofNat a)), .val (.int (Int32.ofNat b - (1 : Int32))), .unset, .unset]) (S' := [(.int (XT.ushr ((Int32.ofNat a) + (Int32.ofNat b - (1 : Int32))) (1 : Int32)))]) rfl ?_
        rw [mid_val hlt (by omega)]
        obtain ⟨d, hd⟩ : ∃ d, d = (a + b - 1) / 2 := ⟨_, rfl⟩
        rw [← hd]
        refine Run.pure hK (seg := [(22, .istore 6, 2), (24, .aload_n 0, 1), (25, .iload 6, 2)]) (by decide +kernel) (pc' := 27) (L' := #[.val (.ref b0), .val (.int (0 : Int32)), .val (.int (Int32.ofNat ks.length)), .val (.int x), .val (.int (Int32.ofNat a)), .val (.int (Int32.ofNat b - (1 : Int32))), .val (.int (Int32.ofNat d)), .unset]) (S' := [(.int (Int32.ofNat d)), (.ref b0)]) rfl ?_
        refine Run.ald hK (i := .iaload) (v := (.int (ks.getD d 0))) A (Or.inr (Or.inl ⟨rfl, rfl⟩)) ⟨ofN_nn (by omega), (ofN_lt2 (by omega) (by omega)).mpr (by omega)⟩ (by rw [ofN_nat (by omega), getD_mapI]) (by decide +kernel) ?_
        refine Run.pure hK (seg := [(28, .istore 7, 2), (30, .iload 7, 2), (32, .iload_n 3, 1)]) (by decide +kernel) (pc' := 33) (L' := #[.val (.ref b0), .val (.int (0 : Int32)), .val (.int (Int32.ofNat ks.length)), .val (.int x), .val (.int (Int32.ofNat a)), .val (.int (Int32.ofNat b - (1 : Int32))), .val (.int (Int32.ofNat d)), .val (.int (ks.getD d 0))]) (S' := [(.int x), (.int (ks.getD d 0))]) rfl ?_
        refine Run.icmp hK (cd := .ge) (o := 12) (by decide +kernel) (by decide) (pc' := 45) rfl (fun q1 => ?_) (fun q1 => ?_)
        · replace q1 := (h_ge _ _).1 q1
          refine Run.pure hK (seg := [(45, .iload 7, 2), (47, .iload_n 3, 1)]) (by decide +kernel) (pc' := 48) (L' := #[.val (.ref b0), .val (.int (0 : Int32)), .val (.int (Int32.ofNat ks.length)), .val (.int x), .val (.int (Int32.ofNat a)), .val (.int (Int32.ofNat b - (1 : Int32))), .val (.int (Int32.ofNat d)), .val (.int (ks.getD d 0))]) (S' := [(.int x), (.int (ks.getD d 0))]) rfl ?_
          refine Run.icmp hK (cd := .le) (o := 12) (by decide +kernel) (by decide) (pc' := 60) rfl (fun q2 => ?_) (fun q2 => ?_)
          · replace q2 := (h_le _ _).1 q2
            refine Run.pure hK (seg := [(60, .iload 6, 2)]) (by decide +kernel) (pc' := 62) (L' := #[.val (.ref b0), .val (.int (0 : Int32)), .val (.int (Int32.ofNat ks.length)), .val (.int x), .val (.int (Int32.ofNat a)), .val (.int (Int32.ofNat b - (1 : Int32))), .val (.int (Int32.ofNat d)), .val (.int (ks.getD d 0))]) (S' := [(.int (Int32.ofNat d))]) rfl ?_
            exact Run.retw hK (i := .ireturn) rfl (Or.inl ⟨rfl, Or.inl rfl, _, rfl⟩) (by decide +kernel) (by decide) (by decide) ⟨rfl, _, rfl, Or.inl ⟨d, by omega, i_eq q1 q2, rfl⟩⟩
          · replace q2 := (h_le _ _).2 q2
            refine Run.pure hK (seg := [(51, .iload 6, 2), (53, .iconst 1, 1), (54, .isub, 1), (55, .istore 5, 2), (57, .goto 6, 3), (63, .goto (-55), 3)]) (by decide +kernel) (pc' := 8) (L' := #[.val (.ref b0), .val (.int (0 : Int32)), .val (.int (Int32.ofNat ks.length)), .val (.int x), .val (.int (Int32.ofNat a)), .val (.int ((Int32.ofNat d) - (1 : Int32))), .val (.int (Int32.ofNat d)), .val (.int (ks.getD d 0))]) (S' := []) rfl ?_
            refine ih a d _ _ (by omega) (by omega) (by omega) i1 (fun i hi hj => ?_) (Or.inr ⟨_, _, rfl, rfl⟩)
            rcases Nat.lt_or_ge d i with r | r
            · exact Int32.lt_trans q2 (srt hs r hj)
            · obtain rfl : i = d := by omega
              exact q2
        · replace q1 := (h_ge _ _).2 q1
          refine Run.pure hK (seg := [(36, .iload 6, 2), (38, .iconst 1, 1), (39, .iadd, 1), (40, .istore 4, 2), (42, .goto 21, 3), (63, .goto (-55), 3)]) (by decide +kernel) (pc' := 8) (L' := #[.val (.ref b0), .val (.int (0 : Int32)), .val (.int (Int32.ofNat ks.length)), .val (.int x), .val (.int ((Int32.ofNat d) + (1 : Int32))), .val (.int (Int32.ofNat b - (1 : Int32))), .val (.int (Int32.ofNat d)), .val (.int (ks.getD d 0))]) (S' := []) rfl ?_
          rw [show Int32.ofNat d + (1 : Int32) = Int32.ofNat (d + 1) from ofN_add (n := d) (m := 1) (by omega)]
          refine ih (d + 1) b _ _ (by omega) (by omega) hb (fun i hi => ?_) i2 (Or.inr ⟨_, _, rfl, rfl⟩)
          rcases Nat.lt_or_ge i d with r | r
          · exact Int32.lt_trans (srt hs r (by omega)) q1
          · obtain rfl : i = d := by omega
            exact q1
      · refine Run.pure hK (seg := [(8, .iload 4, 2), (10, .iload 5, 2)]) (by decide +kernel) (pc' := 12) (L' := #[.val (.ref b0), .val (.int (0 : Int32)), .val (.int (Int32.ofNat ks.length)), .val (.int x), .val (.int (Int32.ofNat a)), .val (.int (Int32.ofNat b - (1 : Int32))), .val (.int y), .val (.int z)]) (S' := [(.int (Int32.ofNat b - (1 : Int32))), (.int (Int32.ofNat a))]) rfl ?_
        refine Run.icmp hK (cd := .gt) (o := 54) (by decide +kernel) (by decide) (pc' := 66) rfl (fun q => by replace q := (h_gt _ _).1 q; rw [Int32.lt_iff_toInt_lt, hi_val (by omega), ofN (by omega)] at q; omega) (fun _ => ?_)
        refine Run.pure hK (seg := [(15, .iload 4, 2), (17, .iload 5, 2), (19, .iadd, 1), (20, .iconst 1, 1), (21, .iushr, 1)]) (by decide +kernel) (pc' := 22) (L' := #[.val (.ref b0), .val (.int (0 : Int32)), .val (.int (Int32.ofNat ks.length)), .val (.int x), .val (.int (Int32.ofNat a)), .val (.int (Int32.ofNat b - (1 : Int32))), .val (.int y), .val (.int z)]) (S' := [(.int (XT.ushr ((Int32.ofNat a) + (Int32.ofNat b - (1 : Int32))) (1 : Int32)))]) rfl ?_
        rw [mid_val hlt (by omega)]
        obtain ⟨d, hd⟩ : ∃ d, d = (a + b - 1) / 2 := ⟨_, rfl⟩
        rw [← hd]
        refine Run.pure hK (seg := [(22, .istore 6, 2), (24, .aload_n 0, 1), (25, .iload 6, 2)]) (by decide +kernel) (pc' := 27) (L' := #[.val (.ref b0), .val (.int (0 : Int32)), .val (.int (Int32.ofNat ks.length)), .val (.int x), .val (.int (Int32.ofNat a)), .val (.int (Int32.ofNat b - (1 : Int32))), .val (.int (Int32.ofNat d)), .val (.int z)]) (S' := [(.int (Int32.ofNat d)), (.ref b0)]) rfl ?_
        refine Run.ald hK (i := .iaload) (v := (.int (ks.getD d 0))) A (Or.inr (Or.inl ⟨rfl, rfl⟩)) ⟨ofN_nn (by omega), (ofN_lt2 (by omega) (by omega)).mpr (by omega)⟩ (by rw [ofN_nat (by omega), getD_mapI]) (by decide +kernel) ?_
        refine Run.pure hK (seg := [(28, .istore 7, 2), (30, .iload 7, 2), (32, .iload_n 3, 1)]) (by decide +kernel) (pc' := 33) (L' := #[.val (.ref b0), .val (.int (0 : Int32)), .val (.int (Int32.ofNat ks.length)), .val (.int x), .val (.int (Int32.ofNat a)), .val (.int (Int32.ofNat b - (1 : Int32))), .val (.int (Int32.ofNat d)), .val (.int (ks.getD d 0))]) (S' := [(.int x), (.int (ks.getD d 0))]) rfl ?_
        refine Run.icmp hK (cd := .ge) (o := 12) (by decide +kernel) (by decide) (pc' := 45) rfl (fun q1 => ?_) (fun q1 => ?_)
        · replace q1 := (h_ge _ _).1 q1
          refine Run.pure hK (seg := [(45, .iload 7, 2), (47, .iload_n 3, 1)]) (by decide +kernel) (pc' := 48) (L' := #[.val (.ref b0), .val (.int (0 : Int32)), .val (.int (Int32.ofNat ks.length)), .val (.int x), .val (.int (Int32.ofNat a)), .val (.int (Int32.ofNat b - (1 : Int32))), .val (.int (Int32.ofNat d)), .val (.int (ks.getD d 0))]) (S' := [(.int x), (.int (ks.getD d 0))]) rfl ?_
          refine Run.icmp hK (cd := .le) (o := 12) (by decide +kernel) (by decide) (pc' := 60) rfl (fun q2 => ?_) (fun q2 => ?_)
          · replace q2 := (h_le _ _).1 q2
            refine Run.pure hK (seg := [(60, .iload 6, 2)]) (by decide +kernel) (pc' := 62) (L' := #[.val (.ref b0), .val (.int (0 : Int32)), .val (.int (Int32.ofNat ks.length)), .val (.int x), .val (.int (Int32.ofNat a)), .val (.int (Int32.ofNat b - (1 : Int32))), .val (.int (Int32.ofNat d)), .val (.int (ks.getD d 0))]) (S' := [(.int (Int32.ofNat d))]) rfl ?_
            exact Run.retw hK (i := .ireturn) rfl (Or.inl ⟨rfl, Or.inl rfl, _, rfl⟩) (by decide +kernel) (by decide) (by decide) ⟨rfl, _, rfl, Or.inl ⟨d, by omega, i_eq q1 q2, rfl⟩⟩
          · replace q2 := (h_le _ _).2 q2
            refine Run.pure hK (seg := [(51, .iload 6, 2), (53, .iconst 1, 1), (54, .isub, 1), (55, .istore 5, 2), (57, .goto 6, 3), (63, .goto (-55), 3)]) (by decide +kernel) (pc' := 8) (L' := #[.val (.ref b0), .val (.int (0 : Int32)), .val (.int (Int32.ofNat ks.length)), .val (.int x), .val (.int (Int32.ofNat a)), .val (.int ((Int32.ofNat d) - (1 : Int32))), .val (.int (Int32.ofNat d)), .val (.int (ks.getD d 0))]) (S' := []) rfl ?_
            refine ih a d _ _ (by omega) (by omega) (by omega) i1 (fun i hi hj => ?_) (Or.inr ⟨_, _, rfl, rfl⟩)
            rcases Nat.lt_or_ge d i with r | r
            · exact Int32.lt_trans q2 (srt hs r hj)
            · obtain rfl : i = d := by omega
              exact q2
        · replace q1 := (h_ge _ _).2 q1
          refine Run.pure hK (seg := [(36, .iload 6, 2), (38, .iconst 1, 1), (39, .iadd, 1), (40, .istore 4, 2), (42, .goto 21, 3), (63, .goto (-55), 3)]) (by decide +kernel) (pc' := 8) (L' := #[.val (.ref b0), .val (.int (0 : Int32)), .val (.int (Int32.ofNat ks.length)), .val (.int x), .val (.int ((Int32.ofNat d) + (1 : Int32))), .val (.int (Int32.ofNat b - (1 : Int32))), .val (.int (Int32.ofNat d)), .val (.int (ks.getD d 0))]) (S' := []) rfl ?_
          rw [show Int32.ofNat d + (1 : Int32) = Int32.ofNat (d + 1) from ofN_add (n := d) (m := 1) (by omega)]
          refine ih (d + 1) b _ _ (by omega) (by omega) hb (fun i hi => ?_) i2 (Or.inr ⟨_, _, rfl, rfl⟩)
          rcases Nat.lt_or_ge i d with r | r
          · exact Int32.lt_trans (srt hs r (by omega)) q1
          · obtain rfl : i = d := by omega
            exact q1
  refine Run.pure hK (seg := [(0, .iload_n 1, 1), (1, .istore 4, 2), (3, .iload_n 2, 1), (4, .iconst 1, 1), (5, .isub, 1), (6, .istore 5, 2)]) (by decide +kernel) (pc' := 8) (L' := #[.val (.ref b0), .val (.int (0 : Int32)), .val (.int (Int32.ofNat ks.length)), .val (.int x), .val (.int (0 : Int32)), .val (.int ((Int32.ofNat ks.length) - (1 : Int32))), .unset, .unset]) (S' := []) rfl ?_
  exact loop ks.length 0 ks.length _ _ (by omega) (by omega) (by omega) (fun i hi => nomatch hi) (fun i h1 h2 => by omega) (Or.inl ⟨rfl, rfl⟩)
set_option maxRecDepth 65536 in
set_option maxHeartbeats 40000000 in
theorem c_bs {l : Launch} {Z : State} {a0 : Array Value} (G : Env1 Z a0) (b0 : Addr) (x : Int32) {ks : List Int32} {kb : ClassId} {n : Nat} (h : Heap) (A : Arv Z h b0 kb .int (Int32.ofNat n) (ks.map Value.int) (.int 0)) (hs : ks.Pairwise (· < ·)) (hl : ks.length ≤ n) (hn : n ≤ 64) : Ctr Z [] true l [] (⟨"java/util/Arrays", "binarySearch", "([IIII)I"⟩ : MethodName) jdk_65_method_58_code 4 (some .int) ({ frames := 1, cells := 0, slots := 0, locals := 24 } : Room) #[(.ref b0), (.int (0 : Int32)), (.int (Int32.ofNat ks.length)), (.int x)] h [] (fun v h' => h' = h ∧ ∃ r, v = some (.int r) ∧ BSr ks x r) := by
  obtain ⟨hw, N1, N2, nk1, nk2, NS1, NA1, NS2, NA2⟩ := id G; have hEL := (EW.nil : EW Z a0 [])
  refine Ctr.of_run (a0 := a0) (L0 := #[.val (.ref b0), .val (.int (0 : Int32)), .val (.int (Int32.ofNat ks.length)), .val (.int x)]) (plainFor_of_name pn_ar) hEL (by first | (simp [argsToLocals, Value.category, maxLocals]; done) | rfl) (fun K hK => ?_)
  refine Run.pure hK (seg := [(0, .aload_n 0, 1)]) (by decide +kernel) (pc' := 1) (L' := #[.val (.ref b0), .val (.int (0 : Int32)), .val (.int (Int32.ofNat ks.length)), .val (.int x)]) (S' := [(.ref b0)]) rfl ?_
  refine Run.alen hK A (by decide +kernel) ?_
  refine Run.pure hK (seg := [(2, .iload_n 1, 1), (3, .iload_n 2, 1)]) (by decide +kernel) (pc' := 4) (L' := #[.val (.ref b0), .val (.int (0 : Int32)), .val (.int (Int32.ofNat ks.length)), .val (.int x)]) (S' := [(.int (Int32.ofNat ks.length)), (.int (0 : Int32)), (.int (Int32.ofNat n))]) rfl ?_
  refine Run.static hK (index := 13) (y := (⟨"java/util/Arrays", "rangeCheck", "(III)V"⟩ : MethodName)) (Wt := 0) (kc := 0) (ks := 0) (hw _ (List.mem_of_getElem? (i := 32) rfl)) (hw _ (List.mem_of_getElem? (i := 33) rfl)) (hw _ (List.mem_of_getElem? (i := 30) rfl)) (hw _ (List.mem_of_getElem? (i := 34) rfl)) (by decide) (W' := []) (fun _ q => nomatch q) (Ctr.cal (c_rc G (Int32.ofNat n) 0 (Int32.ofNat ks.length) (ofN_nn (by omega)) (by decide) (fun z => by rw [ofN_lt2 (by omega) (by omega)] at z; omega) h) (hw _ (List.mem_of_getElem? (i := 34) rfl)) (hw _ (List.mem_of_getElem? (i := 30) rfl)) (by decide) (by decide)) rfl (argsL := [(.int (Int32.ofNat n)), (.int (0 : Int32)), (.int (Int32.ofNat ks.length))]) (rest := []) (lenOf pd_iii rfl) rfl (Nat.le_of_ble_eq_true rfl) (by decide +kernel) (by decide) (by decide) (fun v1 h1 q1 n1 => ?_)
  obtain ⟨rfl, rfl⟩ := q1
  refine Run.pure hK (seg := [(7, .aload_n 0, 1), (8, .iload_n 1, 1), (9, .iload_n 2, 1), (10, .iload_n 3, 1)]) (by decide +kernel) (pc' := 11) (L' := #[.val (.ref b0), .val (.int (0 : Int32)), .val (.int (Int32.ofNat ks.length)), .val (.int x)]) (S' := [(.int x), (.int (Int32.ofNat ks.length)), (.int (0 : Int32)), (.ref b0)]) rfl ?_
  refine Run.static hK (index := 209) (y := (⟨"java/util/Arrays", "binarySearch0", "([IIII)I"⟩ : MethodName)) (Wt := 0) (kc := 0) (ks := 0) (hw _ (List.mem_of_getElem? (i := 35) rfl)) (hw _ (List.mem_of_getElem? (i := 36) rfl)) (hw _ (List.mem_of_getElem? (i := 30) rfl)) (hw _ (List.mem_of_getElem? (i := 37) rfl)) (by decide) (W' := []) (fun _ q => nomatch q) (Ctr.cal (c_bs0 G b0 x h1 A hs hl hn) (hw _ (List.mem_of_getElem? (i := 37) rfl)) (hw _ (List.mem_of_getElem? (i := 30) rfl)) (by decide) (by decide)) rfl (argsL := [(.ref b0), (.int (0 : Int32)), (.int (Int32.ofNat ks.length)), (.int x)]) (rest := []) (lenOf pd_bs rfl) rfl (Nat.le_of_ble_eq_true rfl) (by decide +kernel) (by decide) (by decide) (fun v2 h2 q2 n2 => ?_)
  obtain ⟨rfl, r, rfl, hr⟩ := q2
  exact Run.retw hK (i := .ireturn) rfl (Or.inl ⟨rfl, Or.inl rfl, _, rfl⟩) (by decide +kernel) (by decide) (by decide) ⟨rfl, r, rfl, hr⟩
set_option maxRecDepth 65536 in
set_option maxHeartbeats 40000000 in
theorem c_cpi {l : Launch} {Z : State} {a0 : Array Value} (G : Env1 Z a0) (b0 : Addr) (m : Nat) {vs : List Value} {kb : ClassId} {n : Nat} (h : Heap) (A : Arv Z h b0 kb .int (Int32.ofNat n) vs (.int 0)) (hl : vs.length ≤ n) (hn : n < m) (hm : m ≤ 4) : Ctr Z [] true l [] (⟨"java/util/Arrays", "copyOf", "([II)[I"⟩ : MethodName) jdk_65_method_123_code 3 (some (.array .int)) ({ frames := 1, cells := 1, slots := 4, locals := 24 } : Room) #[(.ref b0), (.int (Int32.ofNat m))] h [] (fun v h' => ∃ a k, v = some (.ref a) ∧ a = h.size ∧ Arv Z h' a k .int (Int32.ofNat m) vs (.int 0) ∧ Ext h h') := by
  obtain ⟨hw, N1, N2, nk1, nk2, NS1, NA1, NS2, NA2⟩ := id G; have hEL := (EW.nil : EW Z a0 [])
  refine Ctr.of_run (a0 := a0) (L0 := #[.val (.ref b0), .val (.int (Int32.ofNat m)), .unset]) (plainFor_of_name pn_ar) hEL (by first | (simp [argsToLocals, Value.category, maxLocals]; done) | rfl) (fun K hK => ?_)
  refine Run.old (fun hO => ?_)
  refine Run.pure hK (seg := [(0, .iload_n 1, 1), (1, .aload_n 0, 1)]) (by decide +kernel) (pc' := 2) (L' := #[.val (.ref b0), .val (.int (Int32.ofNat m)), .unset]) (S' := [(.ref b0), (.int (Int32.ofNat m))]) rfl ?_
  refine Run.alen hK A (by decide +kernel) ?_
  refine Run.icmp hK (cd := .ne) (o := 11) (by decide +kernel) (by decide) (pc' := 14) rfl (fun _ => ?_) (fun q => by replace q := (h_ne _ _).2 q; have z := congrArg Int32.toInt q; rw [ofN (by omega), ofN (by omega)] at z; omega)
  refine Run.pure hK (seg := [(14, .iload_n 1, 1)]) (by decide +kernel) (pc' := 15) (L' := #[.val (.ref b0), .val (.int (Int32.ofNat m)), .unset]) (S' := [(.int (Int32.ofNat m))]) rfl ?_
  refine Run.newarr hK (aty := .int) (hw _ (List.mem_of_getElem? (i := 45) rfl)) (by decide +kernel) (ofN_nn (by omega)) (cap := 4) (by rw [ofN_nat (by omega)]; exact hm) (by decide) (by decide) (by decide) (fun hr kr Er Ar => ?_)
  obtain ⟨ar, zr⟩ : ∃ z, z = h.size := ⟨_, rfl⟩
  rw [← zr]
  rw [← zr] at Ar
  refine Run.pure hK (seg := [(17, .astore_n 2, 1), (18, .aload_n 0, 1), (19, .iconst 0, 1), (20, .aload_n 2, 1), (21, .iconst 0, 1), (22, .aload_n 0, 1)]) (by decide +kernel) (pc' := 23) (L' := #[.val (.ref b0), .val (.int (Int32.ofNat m)), .val (.ref ar)]) (S' := [(.ref b0), (.int (0 : Int32)), (.ref ar), (.int (0 : Int32)), (.ref b0)]) rfl ?_
  refine Run.alen hK (A.ext Er) (by decide +kernel) ?_
  refine Run.pure hK (seg := [(24, .iload_n 1, 1)]) (by decide +kernel) (pc' := 25) (L' := #[.val (.ref b0), .val (.int (Int32.ofNat m)), .val (.ref ar)]) (S' := [(.int (Int32.ofNat m)), (.int (Int32.ofNat n)), (.int (0 : Int32)), (.ref ar), (.int (0 : Int32)), (.ref b0)]) rfl ?_
  refine Run.static hK (index := 304) (y := (⟨"java/lang/Math", "min", "(II)I"⟩ : MethodName)) (Wt := 4) (kc := 0) (ks := 0) (hw _ (List.mem_of_getElem? (i := 46) rfl)) (hw _ (List.mem_of_getElem? (i := 47) rfl)) (hw _ (List.mem_of_getElem? (i := 40) rfl)) (hw _ (List.mem_of_getElem? (i := 48) rfl)) (by decide) (W' := []) (fun _ q => nomatch q) (Ctr.cal (c_min G (Int32.ofNat n) (Int32.ofNat m) hr) (hw _ (List.mem_of_getElem? (i := 48) rfl)) (hw _ (List.mem_of_getElem? (i := 40) rfl)) (by decide) (by decide)) rfl (argsL := [(.int (Int32.ofNat n)), (.int (Int32.ofNat m))]) (rest := [(.int (0 : Int32)), (.ref ar), (.int (0 : Int32)), (.ref b0)]) (lenOf pd_ii rfl) rfl (Nat.le_of_ble_eq_true rfl) (by decide +kernel) (by decide) (by decide) (fun v1 h1 q1 n1 => ?_)
  obtain ⟨rfl, rfl⟩ := q1
  rw [if_neg (fun z => by rw [ofN_lt2 (by omega) (by omega)] at z; omega)]
  have P : Arv Z h1 ar kr .int (Int32.ofNat m) (List.replicate m (.int 0)) (.int 0) := Ar.pad (fun i => by rw [List.getD_eq_getElem?_getD, List.getElem?_replicate]; split <;> rfl)
  refine Run.cpy hK (index := 150) (hw _ (List.mem_of_getElem? (i := 49) rfl)) (hw _ (List.mem_of_getElem? (i := 52) rfl)) (hw _ (List.mem_of_getElem? (i := 50) rfl)) (hw _ (List.mem_of_getElem? (i := 51) rfl)) (A.ext Er) P rfl (by decide) (by decide) (ofN_nn (by omega)) (by show 0 + _ ≤ _; omega) (by rw [ofN_nat (by omega), ofN_nat (by omega)]; show 0 + _ ≤ _; omega) (us := (List.range n).map fun i => vs.getD (0 + i) (.int 0)) (by rw [ofN_nat (by omega)]; rfl) (by rw [ofN_nat (by omega), List.length_replicate]; show 0 + _ ≤ _; omega) (by rw [zr]; exact hO.1) sfN rfl (by decide +kernel) (by decide) (Wt := 0) (Nat.le_of_ble_eq_true rfl) (by decide) (fun h2 K2 B2 => ?_)
  have Af : Arv Z h2 ar kr .int (Int32.ofNat m) vs (.int 0) := by
    rw [ofN_nat (by omega : n ≤ 4000)] at B2
    exact B2.pad (cp_pad (.int 0) hl (by omega))
  have Ef := ext_keep Er K2 (fun x hx => by cases List.mem_singleton.mp hx; rw [zr]; exact Nat.le_refl _)
  refine Run.pure hK (seg := [(31, .aload_n 2, 1)]) (by decide +kernel) (pc' := 32) (L' := #[.val (.ref b0), .val (.int (Int32.ofNat m)), .val (.ref ar)]) (S' := [(.ref ar)]) rfl ?_
  exact Run.retw hK (i := .areturn) rfl (Or.inr (Or.inr (Or.inr (Or.inr ⟨rfl, rfl, rfl⟩)))) (by decide +kernel) (by decide) (by decide) ⟨ar, kr, rfl, by first | rfl | exact zr, Af, Ef⟩
set_option maxRecDepth 65536 in
set_option maxHeartbeats 40000000 in
theorem c_cpj {l : Launch} {Z : State} {a0 : Array Value} (G : Env1 Z a0) (b0 : Addr) (m : Nat) {vs : List Value} {kb : ClassId} {n : Nat} (h : Heap) (A : Arv Z h b0 kb .long (Int32.ofNat n) vs (.long 0)) (hl : vs.length ≤ n) (hn : n < m) (hm : m ≤ 4) : Ctr Z [] true l [] (⟨"java/util/Arrays", "copyOf", "([JI)[J"⟩ : MethodName) jdk_65_method_124_code 3 (some (.array .long)) ({ frames := 1, cells := 1, slots := 4, locals := 24 } : Room) #[(.ref b0), (.int (Int32.ofNat m))] h [] (fun v h' => ∃ a k, v = some (.ref a) ∧ a = h.size ∧ Arv Z h' a k .long (Int32.ofNat m) vs (.long 0) ∧ Ext h h') := by
  obtain ⟨hw, N1, N2, nk1, nk2, NS1, NA1, NS2, NA2⟩ := id G; have hEL := (EW.nil : EW Z a0 [])
  refine Ctr.of_run (a0 := a0) (L0 := #[.val (.ref b0), .val (.int (Int32.ofNat m)), .unset]) (plainFor_of_name pn_ar) hEL (by first | (simp [argsToLocals, Value.category, maxLocals]; done) | rfl) (fun K hK => ?_)
  refine Run.old (fun hO => ?_)
  refine Run.pure hK (seg := [(0, .iload_n 1, 1), (1, .aload_n 0, 1)]) (by decide +kernel) (pc' := 2) (L' := #[.val (.ref b0), .val (.int (Int32.ofNat m)), .unset]) (S' := [(.ref b0), (.int (Int32.ofNat m))]) rfl ?_
  refine Run.alen hK A (by decide +kernel) ?_
  refine Run.icmp hK (cd := .ne) (o := 11) (by decide +kernel) (by decide) (pc' := 14) rfl (fun _ => ?_) (fun q => by replace q := (h_ne _ _).2 q; have z := congrArg Int32.toInt q; rw [ofN (by omega), ofN (by omega)] at z; omega)
  refine Run.pure hK (seg := [(14, .iload_n 1, 1)]) (by decide +kernel) (pc' := 15) (L' := #[.val (.ref b0), .val (.int (Int32.ofNat m)), .unset]) (S' := [(.int (Int32.ofNat m))]) rfl ?_
  refine Run.newarr hK (aty := .long) (hw _ (List.mem_of_getElem? (i := 56) rfl)) (by decide +kernel) (ofN_nn (by omega)) (cap := 4) (by rw [ofN_nat (by omega)]; exact hm) (by decide) (by decide) (by decide) (fun hr kr Er Ar => ?_)
  obtain ⟨ar, zr⟩ : ∃ z, z = h.size := ⟨_, rfl⟩
  rw [← zr]
  rw [← zr] at Ar
  refine Run.pure hK (seg := [(17, .astore_n 2, 1), (18, .aload_n 0, 1), (19, .iconst 0, 1), (20, .aload_n 2, 1), (21, .iconst 0, 1), (22, .aload_n 0, 1)]) (by decide +kernel) (pc' := 23) (L' := #[.val (.ref b0), .val (.int (Int32.ofNat m)), .val (.ref ar)]) (S' := [(.ref b0), (.int (0 : Int32)), (.ref ar), (.int (0 : Int32)), (.ref b0)]) rfl ?_
  refine Run.alen hK (A.ext Er) (by decide +kernel) ?_
  refine Run.pure hK (seg := [(24, .iload_n 1, 1)]) (by decide +kernel) (pc' := 25) (L' := #[.val (.ref b0), .val (.int (Int32.ofNat m)), .val (.ref ar)]) (S' := [(.int (Int32.ofNat m)), (.int (Int32.ofNat n)), (.int (0 : Int32)), (.ref ar), (.int (0 : Int32)), (.ref b0)]) rfl ?_
  refine Run.static hK (index := 304) (y := (⟨"java/lang/Math", "min", "(II)I"⟩ : MethodName)) (Wt := 4) (kc := 0) (ks := 0) (hw _ (List.mem_of_getElem? (i := 46) rfl)) (hw _ (List.mem_of_getElem? (i := 47) rfl)) (hw _ (List.mem_of_getElem? (i := 40) rfl)) (hw _ (List.mem_of_getElem? (i := 48) rfl)) (by decide) (W' := []) (fun _ q => nomatch q) (Ctr.cal (c_min G (Int32.ofNat n) (Int32.ofNat m) hr) (hw _ (List.mem_of_getElem? (i := 48) rfl)) (hw _ (List.mem_of_getElem? (i := 40) rfl)) (by decide) (by decide)) rfl (argsL := [(.int (Int32.ofNat n)), (.int (Int32.ofNat m))]) (rest := [(.int (0 : Int32)), (.ref ar), (.int (0 : Int32)), (.ref b0)]) (lenOf pd_ii rfl) rfl (Nat.le_of_ble_eq_true rfl) (by decide +kernel) (by decide) (by decide) (fun v1 h1 q1 n1 => ?_)
  obtain ⟨rfl, rfl⟩ := q1
  rw [if_neg (fun z => by rw [ofN_lt2 (by omega) (by omega)] at z; omega)]
  have P : Arv Z h1 ar kr .long (Int32.ofNat m) (List.replicate m (.long 0)) (.long 0) := Ar.pad (fun i => by rw [List.getD_eq_getElem?_getD, List.getElem?_replicate]; split <;> rfl)
  refine Run.cpy hK (index := 150) (hw _ (List.mem_of_getElem? (i := 49) rfl)) (hw _ (List.mem_of_getElem? (i := 52) rfl)) (hw _ (List.mem_of_getElem? (i := 50) rfl)) (hw _ (List.mem_of_getElem? (i := 51) rfl)) (A.ext Er) P rfl (by decide) (by decide) (ofN_nn (by omega)) (by show 0 + _ ≤ _; omega) (by rw [ofN_nat (by omega), ofN_nat (by omega)]; show 0 + _ ≤ _; omega) (us := (List.range n).map fun i => vs.getD (0 + i) (.long 0)) (by rw [ofN_nat (by omega)]; rfl) (by rw [ofN_nat (by omega), List.length_replicate]; show 0 + _ ≤ _; omega) (by rw [zr]; exact hO.1) sfN rfl (by decide +kernel) (by decide) (Wt := 0) (Nat.le_of_ble_eq_true rfl) (by decide) (fun h2 K2 B2 => ?_)
  have Af : Arv Z h2 ar kr .long (Int32.ofNat m) vs (.long 0) := by
    rw [ofN_nat (by omega : n ≤ 4000)] at B2
    exact B2.pad (cp_pad (.long 0) hl (by omega))
  have Ef := ext_keep Er K2 (fun x hx => by cases List.mem_singleton.mp hx; rw [zr]; exact Nat.le_refl _)
  refine Run.pure hK (seg := [(31, .aload_n 2, 1)]) (by decide +kernel) (pc' := 32) (L' := #[.val (.ref b0), .val (.int (Int32.ofNat m)), .val (.ref ar)]) (S' := [(.ref ar)]) rfl ?_
  exact Run.retw hK (i := .areturn) rfl (Or.inr (Or.inr (Or.inr (Or.inr ⟨rfl, rfl, rfl⟩)))) (by decide +kernel) (by decide) (by decide) ⟨ar, kr, rfl, by first | rfl | exact zr, Af, Ef⟩
set_option maxRecDepth 65536 in
set_option maxHeartbeats 40000000 in
theorem c_i3 {l : Launch} {Z : State} {a0 : Array Value} (G : Env1 Z a0) (x0 ka wa : Addr) (n0 : Int32) (h : Heap) (hx0 : Z.heap.size ≤ x0) (X : Exa Z h x0 "com/example/liveness/liveness/IntSet") {u1 u2 u3 : Value} (Fs : Fld Z h x0 "com/example/liveness/liveness/IntSet" "keys" "[I" u1 ∧ Fld Z h x0 "com/example/liveness/liveness/IntSet" "words" "[J" u2 ∧ Fld Z h x0 "com/example/liveness/liveness/IntSet" "count" "I" u3) : Ctr Z [] true l [] (⟨"com/example/liveness/liveness/IntSet", "<init>", "([I[JI)V"⟩ : MethodName) prog_27_method_2_code 4 none ({ frames := 1, cells := 0, slots := 0, locals := 14 } : Room) #[(.ref x0), (.ref ka), (.ref wa), (.int n0)] h [] (fun v h' => v = none ∧ Exa Z h' x0 "com/example/liveness/liveness/IntSet" ∧ (Fld Z h' x0 "com/example/liveness/liveness/IntSet" "keys" "[I" (.ref ka) ∧ Fld Z h' x0 "com/example/liveness/liveness/IntSet" "words" "[J" (.ref wa) ∧ Fld Z h' x0 "com/example/liveness/liveness/IntSet" "count" "I" (.int n0)) ∧ Keep h h' [x0]) := by
  obtain ⟨hw, N1, N2, nk1, nk2, NS1, NA1, NS2, NA2⟩ := id G; have hEL := (EW.nil : EW Z a0 [])
  refine Ctr.of_run (a0 := a0) (L0 := #[.val (.ref x0), .val (.ref ka), .val (.ref wa), .val (.int n0)]) (plainFor_of_name pn_is) hEL (by first | (simp [argsToLocals, Value.category, maxLocals]; done) | rfl) (fun K hK => ?_)
  obtain ⟨Fk, Fw, Fc⟩ := Fs
  refine Run.pure hK (seg := [(0, .aload_n 0, 1)]) (by decide +kernel) (pc' := 1) (L' := #[.val (.ref x0), .val (.ref ka), .val (.ref wa), .val (.int n0)]) (S' := [(.ref x0)]) rfl ?_
  refine Run.initobj hK (index := 15) (hw _ (List.mem_of_getElem? (i := 14) rfl)) (hw _ (List.mem_of_getElem? (i := 15) rfl)) (hw _ (List.mem_of_getElem? (i := 16) rfl)) rfl (by decide +kernel) (by decide) (Wt := 0) (Nat.le_of_ble_eq_true rfl) (by decide) ?_
  refine Run.pure hK (seg := [(4, .aload_n 0, 1), (5, .aload_n 1, 1)]) (by decide +kernel) (pc' := 6) (L' := #[.val (.ref x0), .val (.ref ka), .val (.ref wa), .val (.int n0)]) (S' := [(.ref ka), (.ref x0)]) rfl ?_
  refine Run.putf hK (index := 20) (host := "") (Or.inl (hw _ (List.mem_of_getElem? (i := 17) rfl))) Via.refl Fk X (Or.inl (hw _ (List.mem_of_getElem? (i := 18) rfl))) (hw _ (List.mem_of_getElem? (i := 2) rfl)) (ty := (.array .int)) (by decide) rfl rfl hx0 (sfE X (by decide) (by decide)) (by decide +kernel) (fun h1 W1 => ?_)
  replace Fk := Fk.same W1
  replace Fw := Fw.other W1 (Or.inr (slot_ne (Or.inl (hw _ (List.mem_of_getElem? (i := 20) rfl))) (Or.inl (hw _ (List.mem_of_getElem? (i := 18) rfl))) (by decide) (by decide : parseFieldDescriptor "[J" = some (.array .long)) (by decide : parseFieldDescriptor "[I" = some (.array .int))))
  replace Fc := Fc.other W1 (Or.inr (slot_ne (Or.inl (hw _ (List.mem_of_getElem? (i := 22) rfl))) (Or.inl (hw _ (List.mem_of_getElem? (i := 18) rfl))) (by decide) (by decide : parseFieldDescriptor "I" = some .int) (by decide : parseFieldDescriptor "[I" = some (.array .int))))
  replace X := X.wr W1
  refine Run.pure hK (seg := [(9, .aload_n 0, 1), (10, .aload_n 2, 1)]) (by decide +kernel) (pc' := 11) (L' := #[.val (.ref x0), .val (.ref ka), .val (.ref wa), .val (.int n0)]) (S' := [(.ref wa), (.ref x0)]) rfl ?_
  refine Run.putf hK (index := 23) (host := "") (Or.inl (hw _ (List.mem_of_getElem? (i := 19) rfl))) Via.refl Fw X (Or.inl (hw _ (List.mem_of_getElem? (i := 20) rfl))) (hw _ (List.mem_of_getElem? (i := 2) rfl)) (ty := (.array .long)) (by decide) rfl rfl hx0 (sfE X (by decide) (by decide)) (by decide +kernel) (fun h2 W2 => ?_)
  replace Fk := Fk.other W2 (Or.inr (slot_ne (Or.inl (hw _ (List.mem_of_getElem? (i := 18) rfl))) (Or.inl (hw _ (List.mem_of_getElem? (i := 20) rfl))) (by decide) (by decide : parseFieldDescriptor "[I" = some (.array .int)) (by decide : parseFieldDescriptor "[J" = some (.array .long))))
  replace Fw := Fw.same W2
  replace Fc := Fc.other W2 (Or.inr (slot_ne (Or.inl (hw _ (List.mem_of_getElem? (i := 22) rfl))) (Or.inl (hw _ (List.mem_of_getElem? (i := 20) rfl))) (by decide) (by decide : parseFieldDescriptor "I" = some .int) (by decide : parseFieldDescriptor "[J" = some (.array .long))))
  replace X := X.wr W2
  refine Run.pure hK (seg := [(14, .aload_n 0, 1), (15, .iload_n 3, 1)]) (by decide +kernel) (pc' := 16) (L' := #[.val (.ref x0), .val (.ref ka), .val (.ref wa), .val (.int n0)]) (S' := [(.int n0), (.ref x0)]) rfl ?_
  refine Run.putf hK (index := 26) (host := "") (Or.inl (hw _ (List.mem_of_getElem? (i := 21) rfl))) Via.refl Fc X (Or.inl (hw _ (List.mem_of_getElem? (i := 22) rfl))) (hw _ (List.mem_of_getElem? (i := 2) rfl)) (ty := .int) (by decide) rfl rfl hx0 (sfE X (by decide) (by decide)) (by decide +kernel) (fun h3 W3 => ?_)
  replace Fk := Fk.other W3 (Or.inr (slot_ne (Or.inl (hw _ (List.mem_of_getElem? (i := 18) rfl))) (Or.inl (hw _ (List.mem_of_getElem? (i := 22) rfl))) (by decide) (by decide : parseFieldDescriptor "[I" = some (.array .int)) (by decide : parseFieldDescriptor "I" = some .int)))
  replace Fw := Fw.other W3 (Or.inr (slot_ne (Or.inl (hw _ (List.mem_of_getElem? (i := 20) rfl))) (Or.inl (hw _ (List.mem_of_getElem? (i := 22) rfl))) (by decide) (by decide : parseFieldDescriptor "[J" = some (.array .long)) (by decide : parseFieldDescriptor "I" = some .int)))
  replace Fc := Fc.same W3
  replace X := X.wr W3
  exact Run.retv hK (by decide +kernel) (by decide) (by decide) ⟨rfl, X, ⟨Fk, Fw, Fc⟩, ((((Keep.refl h [x0]).wr W1 (Or.inl (List.mem_singleton.mpr rfl))).wr W2 (Or.inl (List.mem_singleton.mpr rfl))).wr W3 (Or.inl (List.mem_singleton.mpr rfl)))⟩
set_option maxRecDepth 65536 in
set_option maxHeartbeats 40000000 in
theorem c_i0 {l : Launch} {Z : State} {a0 : Array Value} (G : Env1 Z a0) (x0 : Addr) (h : Heap) (hx0 : Z.heap.size ≤ x0) (X : Exa Z h x0 "com/example/liveness/liveness/IntSet") {u1 u2 u3 : Value} (Fs : Fld Z h x0 "com/example/liveness/liveness/IntSet" "keys" "[I" u1 ∧ Fld Z h x0 "com/example/liveness/liveness/IntSet" "words" "[J" u2 ∧ Fld Z h x0 "com/example/liveness/liveness/IntSet" "count" "I" u3) : Ctr Z [] true l [] (⟨"com/example/liveness/liveness/IntSet", "<init>", "()V"⟩ : MethodName) prog_27_method_1_code 1 none ({ frames := 2, cells := 0, slots := 0, locals := 32 } : Room) #[(.ref x0)] h [] (fun v h' => v = none ∧ IS Z h' [x0] x0 [] [] 0 ∧ Keep h h' [x0]) := by
  obtain ⟨hw, N1, N2, nk1, nk2, NS1, NA1, NS2, NA2⟩ := id G; have hEL := (EW.nil : EW Z a0 [])
  refine Ctr.of_run (a0 := a0) (L0 := #[.val (.ref x0)]) (plainFor_of_name pn_is) hEL (by first | (simp [argsToLocals, Value.category, maxLocals]; done) | rfl) (fun K hK => ?_)
  refine Run.old (fun hO => ?_)
  refine Run.pure hK (seg := [(0, .aload_n 0, 1)]) (by decide +kernel) (pc' := 1) (L' := #[.val (.ref x0)]) (S' := [(.ref x0)]) rfl ?_
  refine Run.gets hK (index := 1) (hw _ (List.mem_of_getElem? (i := 7) rfl)) Via.refl (NS1.ext hO) (by decide +kernel) ?_
  refine Run.gets hK (index := 7) (hw _ (List.mem_of_getElem? (i := 9) rfl)) Via.refl (NS2.ext hO) (by decide +kernel) ?_
  refine Run.pure hK (seg := [(7, .iconst 0, 1)]) (by decide +kernel) (pc' := 8) (L' := #[.val (.ref x0)]) (S' := [(.int (0 : Int32)), (.ref N2), (.ref N1), (.ref x0)]) rfl ?_
  refine Run.special hK (index := 11) (y := (⟨"com/example/liveness/liveness/IntSet", "<init>", "([I[JI)V"⟩ : MethodName)) (Wt := 0) (kc := 0) (ks := 0) rfl (hw _ (List.mem_of_getElem? (i := 11) rfl)) (hw _ (List.mem_of_getElem? (i := 12) rfl)) (hw _ (List.mem_of_getElem? (i := 13) rfl)) (by decide) (a := x0) (W' := []) (fun _ q => nomatch q) (Ctr.cal (c_i3 G x0 N1 N2 0 h hx0 X Fs) (hw _ (List.mem_of_getElem? (i := 13) rfl)) (hw _ (List.mem_of_getElem? (i := 3) rfl)) (by decide) (by decide)) rfl (argsL := [(.ref N1), (.ref N2), (.int (0 : Int32))]) (rest := []) (lenOf pd_i3 rfl) rfl (Nat.le_of_ble_eq_true rfl) (by decide +kernel) (by decide) (by decide) (fun v1 h1 q1 n1 => ?_)
  obtain ⟨rfl, X1, ⟨F1, F2, F3⟩, K1⟩ := q1
  have l1 := NA1.lt
  have l2 := NA2.lt
  have A1 := (NA1.ext hO).keep K1 (fun z => by cases List.mem_singleton.mp z; exact absurd hx0 (Nat.not_le.mpr l1))
  have A2 := (NA2.ext hO).keep K1 (fun z => by cases List.mem_singleton.mp z; exact absurd hx0 (Nat.not_le.mpr l2))
  exact Run.retv hK (by decide +kernel) (by decide) (by decide) ⟨rfl, ⟨N1, N2, nk1, nk2, X1, F1, F2, F3, A1, A2, hx0, Nat.le_refl _, Or.inl ⟨rfl, rfl, l1, l2⟩⟩, K1⟩
set_option maxRecDepth 65536 in
set_option maxHeartbeats 40000000 in
theorem c_add {l : Launch} {Z : State} {a0 : Array Value} (G : Env1 Z a0) (x0 : Addr) (x1 : Int32) {ow : List Addr} {ks M : List Int32} {ws : List Int64} {n : Nat} (h : Heap) (hx : ¬ x1 < 0) (I : IS Z h ow x0 ks ws n) (Rp : Rep ks ws M) (hl2 : ks.length ≤ 2) (hn4 : n ≤ 4) : Ctr Z [] true l [] (⟨"com/example/liveness/liveness/IntSet", "add", "(I)V"⟩ : MethodName) prog_27_method_8_code 5 none ({ frames := 2, cells := 2, slots := 8, locals := 48 } : Room) #[(.ref x0), (.int x1)] h [] (fun v h' => v = none ∧ ∃ (ow' : List Addr) (ks' : List Int32) (ws' : List Int64) (n' : Nat), IS Z h' ow' x0 ks' ws' n' ∧ Rep ks' ws' (x1 :: M) ∧ n' ≤ 4 ∧ ks'.length ≤ ks.length + 1 ∧ Keep h h' ow ∧ ∀ x ∈ ow', x ∈ ow ∨ h.size ≤ x) := by
  obtain ⟨hw, N1, N2, nk1, nk2, NS1, NA1, NS2, NA2⟩ := id G; have hEL := (EW.nil : EW Z a0 [])
  refine Ctr.of_run (a0 := a0) (L0 := #[.val (.ref x0), .val (.int x1), .unset, .unset, .unset]) (plainFor_of_name pn_is) hEL (by first | (simp [argsToLocals, Value.category, maxLocals]; done) | rfl) (fun K hK => ?_)
  obtain ⟨ka, wa, kk, kw, X, Fk, Fw, Fc, Ak, Aw, ga, hln, hO4⟩ := I
  have nk : x0 ≠ ka := X.neArv Ak (hw _ (List.mem_of_getElem? (i := 2) rfl))
  have nw : x0 ≠ wa := X.neArv Aw (hw _ (List.mem_of_getElem? (i := 2) rfl))
  have hlw : ks.length = ws.length := Rp.2.1
  have hox : x0 ∈ ow := by rcases hO4 with ⟨-, rfl, -⟩ | ⟨-, rfl, -⟩ <;> exact List.mem_cons_self ..
  refine Run.pure hK (seg := [(0, .iload_n 1, 1)]) (by decide +kernel) (pc' := 1) (L' := #[.val (.ref x0), .val (.int x1), .unset, .unset, .unset]) (S' := [(.int x1)]) rfl ?_
  refine Run.ifz hK (cd := .ge) (o := 17) (by decide +kernel) (by decide) (pc' := 18) rfl (fun _ => ?_) (fun q => by replace q := (h_ge _ _).2 q; exact absurd q hx)
  refine Run.pure hK (seg := [(18, .iload_n 1, 1), (19, .bipush 6, 2), (21, .iushr, 1), (22, .istore_n 2, 1), (23, .aload_n 0, 1)]) (by decide +kernel) (pc' := 24) (L' := #[.val (.ref x0), .val (.int x1), .val (.int (XT.ushr x1 (6 : Int32))), .unset, .unset]) (S' := [(.ref x0)]) rfl ?_
  refine Run.getf hK (index := 20) (host := "") (Or.inl (hw _ (List.mem_of_getElem? (i := 17) rfl))) Via.refl Fk (by decide +kernel) ?_
  refine Run.pure hK (seg := [(27, .iconst 0, 1), (28, .aload_n 0, 1)]) (by decide +kernel) (pc' := 29) (L' := #[.val (.ref x0), .val (.int x1), .val (.int (XT.ushr x1 (6 : Int32))), .unset, .unset]) (S' := [(.ref x0), (.int (0 : Int32)), (.ref ka)]) rfl ?_
  refine Run.getf hK (index := 26) (host := "") (Or.inl (hw _ (List.mem_of_getElem? (i := 21) rfl))) Via.refl Fc (by decide +kernel) ?_
  refine Run.pure hK (seg := [(32, .iload_n 2, 1)]) (by decide +kernel) (pc' := 33) (L' := #[.val (.ref x0), .val (.int x1), .val (.int (XT.ushr x1 (6 : Int32))), .unset, .unset]) (S' := [(.int (XT.ushr x1 (6 : Int32))), (.int (Int32.ofNat ks.length)), (.int (0 : Int32)), (.ref ka)]) rfl ?_
  refine Run.static hK (index := 45) (y := (⟨"java/util/Arrays", "binarySearch", "([IIII)I"⟩ : MethodName)) (Wt := 0) (kc := 0) (ks := 0) (hw _ (List.mem_of_getElem? (i := 28) rfl)) (hw _ (List.mem_of_getElem? (i := 29) rfl)) (hw _ (List.mem_of_getElem? (i := 30) rfl)) (hw _ (List.mem_of_getElem? (i := 31) rfl)) (by decide) (W' := []) (fun _ q => nomatch q) (Ctr.cal (c_bs G ka (XT.ushr x1 6) h Ak Rp.1 hln (by omega)) (hw _ (List.mem_of_getElem? (i := 31) rfl)) (hw _ (List.mem_of_getElem? (i := 30) rfl)) (by decide) (by decide)) rfl (argsL := [(.ref ka), (.int (0 : Int32)), (.int (Int32.ofNat ks.length)), (.int (XT.ushr x1 (6 : Int32)))]) (rest := []) (lenOf pd_bs rfl) rfl (Nat.le_of_ble_eq_true rfl) (by decide +kernel) (by decide) (by decide) (fun v1 h1 q1 n1 => ?_)
  obtain ⟨rfl, r, rfl, hr⟩ := q1
  refine Run.old (fun hO => ?_)
  rcases hr with ⟨i, hi, hk, rfl⟩ | ⟨p, hp, g1, g2, rfl⟩
  · obtain ⟨hn0, rfl, gk, gw, nkw⟩ : n ≠ 0 ∧ ow = [x0, ka, wa] ∧ Z.heap.size ≤ ka ∧ Z.heap.size ≤ wa ∧ ka ≠ wa := by rcases hO4 with q | q; (exfalso; omega); exact q
    refine Run.pure hK (seg := [(36, .istore_n 3, 1), (37, .iload_n 3, 1)]) (by decide +kernel) (pc' := 38) (L' := #[.val (.ref x0), .val (.int x1), .val (.int (XT.ushr x1 (6 : Int32))), .val (.int (Int32.ofNat i)), .unset]) (S' := [(.int (Int32.ofNat i))]) rfl ?_
    refine Run.ifz hK (cd := .ge) (o := 124) (by decide +kernel) (by decide) (pc' := 162) rfl (fun _ => ?_) (fun q => by replace q := (h_ge _ _).2 q; exact absurd q (ofN_nn (by omega)))
    refine Run.pure hK (seg := [(162, .aload_n 0, 1)]) (by decide +kernel) (pc' := 163) (L' := #[.val (.ref x0), .val (.int x1), .val (.int (XT.ushr x1 (6 : Int32))), .val (.int (Int32.ofNat i)), .unset]) (S' := [(.ref x0)]) rfl ?_
    refine Run.getf hK (index := 23) (host := "") (Or.inl (hw _ (List.mem_of_getElem? (i := 19) rfl))) Via.refl Fw (by decide +kernel) ?_
    refine Run.pure hK (seg := [(166, .iload_n 3, 1), (167, .dup2, 1)]) (by decide +kernel) (pc' := 168) (L' := #[.val (.ref x0), .val (.int x1), .val (.int (XT.ushr x1 (6 : Int32))), .val (.int (Int32.ofNat i)), .unset]) (S' := [(.int (Int32.ofNat i)), (.ref wa), (.int (Int32.ofNat i)), (.ref wa)]) rfl ?_
    refine Run.ald hK (i := .laload) (v := (.long (ws.getD i 0))) Aw (Or.inr (Or.inr (Or.inr ⟨rfl, rfl⟩))) ⟨ofN_nn (by omega), (ofN_lt2 (by omega) (by omega)).mpr (by omega)⟩ (by rw [ofN_nat (by omega), getD_mapJ]) (by decide +kernel) ?_
    refine Run.pure hK (seg := [(169, .lconst 1, 1), (170, .iload_n 1, 1), (171, .lshl, 1), (172, .lor, 1)]) (by decide +kernel) (pc' := 173) (L' := #[.val (.ref x0), .val (.int x1), .val (.int (XT.ushr x1 (6 : Int32))), .val (.int (Int32.ofNat i)), .unset]) (S' := [(.long ((ws.getD i 0) ||| ((1 : Int64) <<< (x1.toInt64 &&& 63)))), (.int (Int32.ofNat i)), (.ref wa)]) rfl ?_
    refine Run.lst hK Aw ⟨ofN_nn (by omega), (ofN_lt2 (by omega) (by omega)).mpr (by omega)⟩ gw (by decide +kernel) (fun h2 W2 B2 => ?_)
    have Aw2 : Arv Z h2 wa kw .long (Int32.ofNat n) ((ws.set i (ws.getD i 0 ||| bit x1)).map Value.long) (.long 0) := by
      rw [List.map_set]; rw [ofN_nat (by omega : i ≤ 4000)] at B2
      exact B2.pad (set_pad _ _ (by rw [List.length_map]; omega))
    exact Run.retv hK (by decide +kernel) (by decide) (by decide) ⟨rfl, [x0, ka, wa], ks, ws.set i (ws.getD i 0 ||| bit x1), n, ⟨ka, wa, kk, kw, X.wr W2, Fk.other W2 (Or.inl nw), Fw.other W2 (Or.inl nw), Fc.other W2 (Or.inl nw), Ak.other W2 nkw, Aw2, ga, hln, Or.inr ⟨hn0, rfl, gk, gw, nkw⟩⟩, Rp.set hi hk, hn4, by omega, (Keep.refl _ _).wr W2 (Or.inl (by simp)), fun x hx => Or.inl hx⟩
  · have tail : ∀ (hT : Heap) (ka wa : Addr) (kk kw : ClassId) (n : Nat) (o4 : Slot), n ≤ 4 → ks.length < n → Exa Z hT x0 "com/example/liveness/liveness/IntSet" → Fld Z hT x0 "com/example/liveness/liveness/IntSet" "keys" "[I" (.ref ka) → Fld Z hT x0 "com/example/liveness/liveness/IntSet" "words" "[J" (.ref wa) → Fld Z hT x0 "com/example/liveness/liveness/IntSet" "count" "I" (.int (Int32.ofNat ks.length)) → Arv Z hT ka kk .int (Int32.ofNat n) (ks.map Value.int) (.int 0) → Arv Z hT wa kw .long (Int32.ofNat n) (ws.map Value.long) (.long 0) → Z.heap.size ≤ ka → Z.heap.size ≤ wa → ka ≠ wa → Keep h1 hT ow → (∀ x ∈ [ka, wa], x ∈ ow ∨ h1.size ≤ x) → Run Z [] true K (fun v h' => v = none ∧ ∃ (ow' : List Addr) (ks' : List Int32) (ws' : List Int64) (n' : Nat), IS Z h' ow' x0 ks' ws' n' ∧ Rep ks' ws' (x1 :: M) ∧ n' ≤ 4 ∧ ks'.length ≤ ks.length + 1 ∧ Keep h1 h' ow ∧ ∀ x ∈ ow', x ∈ ow ∨ h1.size ≤ x) [] hT 2 8 96 #[.val (.ref x0), .val (.int x1), .val (.int (XT.ushr x1 (6 : Int32))), .val (.int (Int32.ofNat p)), o4] [] := by
      clear hO4 Ak Aw Fk Fw Fc X hln nk nw hn4
      intro hT ka wa kk kw n o4 hn4 hln X Fk Fw Fc Ak Aw gk gw nkw KK hin
      have nk : x0 ≠ ka := X.neArv Ak (hw _ (List.mem_of_getElem? (i := 2) rfl))
      have nw : x0 ≠ wa := X.neArv Aw (hw _ (List.mem_of_getElem? (i := 2) rfl))
      refine Run.pure hK (seg := [(96, .aload_n 0, 1)]) (by decide +kernel) (pc' := 97) (L' := #[.val (.ref x0), .val (.int x1), .val (.int (XT.ushr x1 (6 : Int32))), .val (.int (Int32.ofNat p)), o4]) (S' := [(.ref x0)]) rfl ?_
      refine Run.getf hK (index := 20) (host := "") (Or.inl (hw _ (List.mem_of_getElem? (i := 17) rfl))) Via.refl Fk (by decide +kernel) ?_
      refine Run.pure hK (seg := [(100, .iload_n 3, 1), (101, .aload_n 0, 1)]) (by decide +kernel) (pc' := 102) (L' := #[.val (.ref x0), .val (.int x1), .val (.int (XT.ushr x1 (6 : Int32))), .val (.int (Int32.ofNat p)), o4]) (S' := [(.ref x0), (.int (Int32.ofNat p)), (.ref ka)]) rfl ?_
      refine Run.getf hK (index := 20) (host := "") (Or.inl (hw _ (List.mem_of_getElem? (i := 17) rfl))) Via.refl Fk (by decide +kernel) ?_
      refine Run.pure hK (seg := [(105, .iload_n 3, 1), (106, .iconst 1, 1), (107, .iadd, 1), (108, .aload_n 0, 1)]) (by decide +kernel) (pc' := 109) (L' := #[.val (.ref x0), .val (.int x1), .val (.int (XT.ushr x1 (6 : Int32))), .val (.int (Int32.ofNat p)), o4]) (S' := [(.ref x0), (.int ((Int32.ofNat p) + (1 : Int32))), (.ref ka), (.int (Int32.ofNat p)), (.ref ka)]) rfl ?_
      refine Run.getf hK (index := 26) (host := "") (Or.inl (hw _ (List.mem_of_getElem? (i := 21) rfl))) Via.refl Fc (by decide +kernel) ?_
      refine Run.pure hK (seg := [(112, .iload_n 3, 1), (113, .isub, 1)]) (by decide +kernel) (pc' := 114) (L' := #[.val (.ref x0), .val (.int x1), .val (.int (XT.ushr x1 (6 : Int32))), .val (.int (Int32.ofNat p)), o4]) (S' := [(.int ((Int32.ofNat ks.length) - (Int32.ofNat p))), (.int ((Int32.ofNat p) + (1 : Int32))), (.ref ka), (.int (Int32.ofNat p)), (.ref ka)]) rfl ?_
      rw [show Int32.ofNat p + (1 : Int32) = Int32.ofNat (p + 1) from ofN_add (n := p) (m := 1) (by omega), ofN_sub (n := ks.length) (m := p) (by omega) hp]
      have Pa := Ak.pad (pad_rep (ks.map Value.int) (Value.int 0) (n - (ks.map Value.int).length))
      have lPa : (ks.map Value.int ++ List.replicate (n - (ks.map Value.int).length) (Value.int 0)).length = n := by simp only [List.length_append, List.length_map, List.length_replicate]; omega
      refine Run.cpy hK (index := 69) (hw _ (List.mem_of_getElem? (i := 57) rfl)) (hw _ (List.mem_of_getElem? (i := 52) rfl)) (hw _ (List.mem_of_getElem? (i := 50) rfl)) (hw _ (List.mem_of_getElem? (i := 51) rfl)) Ak Pa rfl (ofN_nn (by omega)) (ofN_nn (by omega)) (ofN_nn (by omega)) (by rw [ofN_nat (by omega), ofN_nat (by omega), ofN_nat (by omega)]; omega) (by rw [ofN_nat (by omega), ofN_nat (by omega), ofN_nat (by omega)]; omega) (us := (List.range ((ks.map Value.int).length - p)).map fun i => (ks.map Value.int).getD (p + i) (Value.int 0)) (by rw [ofN_nat (by omega), ofN_nat (by omega), List.length_map]) (by rw [ofN_nat (by omega), ofN_nat (by omega), lPa]; omega) gk sfN rfl (by decide +kernel) (by decide) (Wt := 0) (Nat.le_of_ble_eq_true rfl) (by decide) (fun ha Ka Ba => ?_)
      rw [ofN_nat (by omega : p + 1 ≤ 4000), ofN_nat (by omega : ks.length - p ≤ 4000)] at Ba
      replace Fk := Fk.keep Ka (fun z => nk (List.mem_singleton.mp z))
      replace Fw := Fw.keep Ka (fun z => nk (List.mem_singleton.mp z))
      replace Fc := Fc.keep Ka (fun z => nk (List.mem_singleton.mp z))
      replace X := X.keep Ka
      replace KK := KK.trans Ka (fun x hx => by cases List.mem_singleton.mp hx; exact hin _ (by simp))
      replace Aw := Aw.keep Ka (fun z => nkw (List.mem_singleton.mp z).symm)
      refine Run.pure hK (seg := [(117, .aload_n 0, 1)]) (by decide +kernel) (pc' := 118) (L' := #[.val (.ref x0), .val (.int x1), .val (.int (XT.ushr x1 (6 : Int32))), .val (.int (Int32.ofNat p)), o4]) (S' := [(.ref x0)]) rfl ?_
      refine Run.getf hK (index := 23) (host := "") (Or.inl (hw _ (List.mem_of_getElem? (i := 19) rfl))) Via.refl Fw (by decide +kernel) ?_
      refine Run.pure hK (seg := [(121, .iload_n 3, 1), (122, .aload_n 0, 1)]) (by decide +kernel) (pc' := 123) (L' := #[.val (.ref x0), .val (.int x1), .val (.int (XT.ushr x1 (6 : Int32))), .val (.int (Int32.ofNat p)), o4]) (S' := [(.ref x0), (.int (Int32.ofNat p)), (.ref wa)]) rfl ?_
      refine Run.getf hK (index := 23) (host := "") (Or.inl (hw _ (List.mem_of_getElem? (i := 19) rfl))) Via.refl Fw (by decide +kernel) ?_
      refine Run.pure hK (seg := [(126, .iload_n 3, 1), (127, .iconst 1, 1), (128, .iadd, 1), (129, .aload_n 0, 1)]) (by decide +kernel) (pc' := 130) (L' := #[.val (.ref x0), .val (.int x1), .val (.int (XT.ushr x1 (6 : Int32))), .val (.int (Int32.ofNat p)), o4]) (S' := [(.ref x0), (.int ((Int32.ofNat p) + (1 : Int32))), (.ref wa), (.int (Int32.ofNat p)), (.ref wa)]) rfl ?_
      refine Run.getf hK (index := 26) (host := "") (Or.inl (hw _ (List.mem_of_getElem? (i := 21) rfl))) Via.refl Fc (by decide +kernel) ?_
      refine Run.pure hK (seg := [(133, .iload_n 3, 1), (134, .isub, 1)]) (by decide +kernel) (pc' := 135) (L' := #[.val (.ref x0), .val (.int x1), .val (.int (XT.ushr x1 (6 : Int32))), .val (.int (Int32.ofNat p)), o4]) (S' := [(.int ((Int32.ofNat ks.length) - (Int32.ofNat p))), (.int ((Int32.ofNat p) + (1 : Int32))), (.ref wa), (.int (Int32.ofNat p)), (.ref wa)]) rfl ?_
      rw [show Int32.ofNat p + (1 : Int32) = Int32.ofNat (p + 1) from ofN_add (n := p) (m := 1) (by omega), ofN_sub (n := ks.length) (m := p) (by omega) hp]
      have Pb := Aw.pad (pad_rep (ws.map Value.long) (Value.long 0) (n - (ws.map Value.long).length))
      have lPb : (ws.map Value.long ++ List.replicate (n - (ws.map Value.long).length) (Value.long 0)).length = n := by simp only [List.length_append, List.length_map, List.length_replicate]; omega
      refine Run.cpy hK (index := 69) (hw _ (List.mem_of_getElem? (i := 57) rfl)) (hw _ (List.mem_of_getElem? (i := 52) rfl)) (hw _ (List.mem_of_getElem? (i := 50) rfl)) (hw _ (List.mem_of_getElem? (i := 51) rfl)) Aw Pb rfl (ofN_nn (by omega)) (ofN_nn (by omega)) (ofN_nn (by omega)) (by rw [ofN_nat (by omega), ofN_nat (by omega), ofN_nat (by omega)]; omega) (by rw [ofN_nat (by omega), ofN_nat (by omega), ofN_nat (by omega)]; omega) (us := (List.range ((ws.map Value.long).length - p)).map fun i => (ws.map Value.long).getD (p + i) (Value.long 0)) (by rw [ofN_nat (by omega), ofN_nat (by omega), List.length_map, hlw]) (by rw [ofN_nat (by omega), ofN_nat (by omega), lPb]; omega) gw sfN rfl (by decide +kernel) (by decide) (Wt := 0) (Nat.le_of_ble_eq_true rfl) (by decide) (fun hb Kb Bb => ?_)
      rw [ofN_nat (by omega : p + 1 ≤ 4000), ofN_nat (by omega : ks.length - p ≤ 4000), hlw] at Bb
      replace Fk := Fk.keep Kb (fun z => nw (List.mem_singleton.mp z))
      replace Fw := Fw.keep Kb (fun z => nw (List.mem_singleton.mp z))
      replace Fc := Fc.keep Kb (fun z => nw (List.mem_singleton.mp z))
      replace X := X.keep Kb
      replace KK := KK.trans Kb (fun x hx => by cases List.mem_singleton.mp hx; exact hin _ (by simp))
      replace Ba := Ba.keep Kb (fun z => nkw (List.mem_singleton.mp z))
      refine Run.pure hK (seg := [(138, .aload_n 0, 1)]) (by decide +kernel) (pc' := 139) (L' := #[.val (.ref x0), .val (.int x1), .val (.int (XT.ushr x1 (6 : Int32))), .val (.int (Int32.ofNat p)), o4]) (S' := [(.ref x0)]) rfl ?_
      refine Run.getf hK (index := 20) (host := "") (Or.inl (hw _ (List.mem_of_getElem? (i := 17) rfl))) Via.refl Fk (by decide +kernel) ?_
      refine Run.pure hK (seg := [(142, .iload_n 3, 1), (143, .iload_n 2, 1)]) (by decide +kernel) (pc' := 144) (L' := #[.val (.ref x0), .val (.int x1), .val (.int (XT.ushr x1 (6 : Int32))), .val (.int (Int32.ofNat p)), o4]) (S' := [(.int (XT.ushr x1 (6 : Int32))), (.int (Int32.ofNat p)), (.ref ka)]) rfl ?_
      refine Run.ist hK Ba ⟨ofN_nn (by omega), (ofN_lt2 (by omega) (by omega)).mpr (by omega)⟩ gk (by decide +kernel) (fun hc Wc Bc => ?_)
      have Ak2 : Arv Z hc ka kk .int (Int32.ofNat n) ((insA ks p (key x1)).map Value.int) (.int 0) := by
        rw [ins_map]; rw [ofN_nat (by omega : p ≤ 4000), ofN_nat (by omega : n ≤ 4000)] at Bc
        exact Bc.pad (fun i => by have q := shift_pad (vs := ks.map Value.int) (n := n) (p := p) (.int 0) (.int (key x1)) (by rw [List.length_map]; exact hp) (by rw [List.length_map]; exact hln) i; simp only [List.length_map] at q ⊢; exact q)
      replace Fk := Fk.other Wc (Or.inl nk)
      replace Fw := Fw.other Wc (Or.inl nk)
      replace Fc := Fc.other Wc (Or.inl nk)
      replace X := X.wr Wc
      replace KK := KK.wr Wc (hin _ (by simp))
      replace Bb := Bb.other Wc nkw.symm
      refine Run.pure hK (seg := [(145, .aload_n 0, 1)]) (by decide +kernel) (pc' := 146) (L' := #[.val (.ref x0), .val (.int x1), .val (.int (XT.ushr x1 (6 : Int32))), .val (.int (Int32.ofNat p)), o4]) (S' := [(.ref x0)]) rfl ?_
      refine Run.getf hK (index := 23) (host := "") (Or.inl (hw _ (List.mem_of_getElem? (i := 19) rfl))) Via.refl Fw (by decide +kernel) ?_
      refine Run.pure hK (seg := [(149, .iload_n 3, 1), (150, .lconst 0, 1)]) (by decide +kernel) (pc' := 151) (L' := #[.val (.ref x0), .val (.int x1), .val (.int (XT.ushr x1 (6 : Int32))), .val (.int (Int32.ofNat p)), o4]) (S' := [(.long (0 : Int64)), (.int (Int32.ofNat p)), (.ref wa)]) rfl ?_
      refine Run.lst hK Bb ⟨ofN_nn (by omega), (ofN_lt2 (by omega) (by omega)).mpr (by omega)⟩ gw (by decide +kernel) (fun hd Wd Bd => ?_)
      have Aw2 : Arv Z hd wa kw .long (Int32.ofNat n) ((insA ws p 0).map Value.long) (.long 0) := by
        rw [ins_map]; rw [ofN_nat (by omega : p ≤ 4000), ofN_nat (by omega : n ≤ 4000)] at Bd
        exact Bd.pad (fun i => by have q := shift_pad (vs := ws.map Value.long) (n := n) (p := p) (.long 0) (.long 0) (by rw [List.length_map]; omega) (by rw [List.length_map]; omega) i; simp only [List.length_map] at q ⊢; exact q)
      replace Fk := Fk.other Wd (Or.inl nw)
      replace Fw := Fw.other Wd (Or.inl nw)
      replace Fc := Fc.other Wd (Or.inl nw)
      replace X := X.wr Wd
      replace KK := KK.wr Wd (hin _ (by simp))
      replace Ak2 := Ak2.other Wd nkw
      refine Run.pure hK (seg := [(152, .aload_n 0, 1), (153, .dup, 1)]) (by decide +kernel) (pc' := 154) (L' := #[.val (.ref x0), .val (.int x1), .val (.int (XT.ushr x1 (6 : Int32))), .val (.int (Int32.ofNat p)), o4]) (S' := [(.ref x0), (.ref x0)]) rfl ?_
      refine Run.getf hK (index := 26) (host := "") (Or.inl (hw _ (List.mem_of_getElem? (i := 21) rfl))) Via.refl Fc (by decide +kernel) ?_
      refine Run.pure hK (seg := [(157, .iconst 1, 1), (158, .iadd, 1)]) (by decide +kernel) (pc' := 159) (L' := #[.val (.ref x0), .val (.int x1), .val (.int (XT.ushr x1 (6 : Int32))), .val (.int (Int32.ofNat p)), o4]) (S' := [(.int ((Int32.ofNat ks.length) + (1 : Int32))), (.ref x0)]) rfl ?_
      refine Run.putf hK (index := 26) (host := "") (Or.inl (hw _ (List.mem_of_getElem? (i := 21) rfl))) Via.refl Fc X (Or.inl (hw _ (List.mem_of_getElem? (i := 22) rfl))) (hw _ (List.mem_of_getElem? (i := 2) rfl)) (ty := .int) (by decide) rfl rfl ga (sfE X (by decide) (by decide)) (by decide +kernel) (fun he We => ?_)
      replace Fk := Fk.other We (Or.inr (slot_ne (Or.inl (hw _ (List.mem_of_getElem? (i := 18) rfl))) (Or.inl (hw _ (List.mem_of_getElem? (i := 22) rfl))) (by decide) (by decide : parseFieldDescriptor "[I" = some (.array .int)) (by decide : parseFieldDescriptor "I" = some .int)))
      replace Fw := Fw.other We (Or.inr (slot_ne (Or.inl (hw _ (List.mem_of_getElem? (i := 20) rfl))) (Or.inl (hw _ (List.mem_of_getElem? (i := 22) rfl))) (by decide) (by decide : parseFieldDescriptor "[J" = some (.array .long)) (by decide : parseFieldDescriptor "I" = some .int)))
      replace Fc := Fc.same We
      replace X := X.wr We
      replace KK := KK.wr We (Or.inl hox)
      replace Ak2 := Ak2.other We nk.symm
      replace Aw2 := Aw2.other We nw.symm
      refine Run.pure hK (seg := [(162, .aload_n 0, 1)]) (by decide +kernel) (pc' := 163) (L' := #[.val (.ref x0), .val (.int x1), .val (.int (XT.ushr x1 (6 : Int32))), .val (.int (Int32.ofNat p)), o4]) (S' := [(.ref x0)]) rfl ?_
      refine Run.getf hK (index := 23) (host := "") (Or.inl (hw _ (List.mem_of_getElem? (i := 19) rfl))) Via.refl Fw (by decide +kernel) ?_
      refine Run.pure hK (seg := [(166, .iload_n 3, 1), (167, .dup2, 1)]) (by decide +kernel) (pc' := 168) (L' := #[.val (.ref x0), .val (.int x1), .val (.int (XT.ushr x1 (6 : Int32))), .val (.int (Int32.ofNat p)), o4]) (S' := [(.int (Int32.ofNat p)), (.ref wa), (.int (Int32.ofNat p)), (.ref wa)]) rfl ?_
      refine Run.ald hK (i := .laload) (v := (.long (0 : Int64))) Aw2 (Or.inr (Or.inr (Or.inr ⟨rfl, rfl⟩))) ⟨ofN_nn (by omega), (ofN_lt2 (by omega) (by omega)).mpr (by omega)⟩ (by rw [ofN_nat (by omega), getD_mapJ, ins_get _ _ (by omega)]) (by decide +kernel) ?_
      refine Run.pure hK (seg := [(169, .lconst 1, 1), (170, .iload_n 1, 1), (171, .lshl, 1), (172, .lor, 1)]) (by decide +kernel) (pc' := 173) (L' := #[.val (.ref x0), .val (.int x1), .val (.int (XT.ushr x1 (6 : Int32))), .val (.int (Int32.ofNat p)), o4]) (S' := [(.long ((0 : Int64) ||| ((1 : Int64) <<< (x1.toInt64 &&& 63)))), (.int (Int32.ofNat p)), (.ref wa)]) rfl ?_
      refine Run.lst hK Aw2 ⟨ofN_nn (by omega), (ofN_lt2 (by omega) (by omega)).mpr (by omega)⟩ gw (by decide +kernel) (fun hf Wf Bf => ?_)
      have Aw3 : Arv Z hf wa kw .long (Int32.ofNat n) ((insA ws p (0 ||| bit x1)).map Value.long) (.long 0) := by
        rw [← ins_set (l := ws) (p := p) 0 (0 ||| bit x1) (by omega), List.map_set]; rw [ofN_nat (by omega : p ≤ 4000)] at Bf
        exact Bf.pad (set_pad _ _ (by rw [List.length_map, ins_len (by omega)]; omega))
      replace Fk := Fk.other Wf (Or.inl nw)
      replace Fw := Fw.other Wf (Or.inl nw)
      replace Fc := Fc.other Wf (Or.inl nw)
      replace X := X.wr Wf
      replace KK := KK.wr Wf (hin _ (by simp))
      replace Ak2 := Ak2.other Wf nkw
      have lk : (insA ks p (key x1)).length = ks.length + 1 := ins_len hp
      rw [show Int32.ofNat ks.length + (1 : Int32) = Int32.ofNat (ks.length + 1) from ofN_add (n := ks.length) (m := 1) (by omega), ← lk] at Fc
      exact Run.retv hK (by decide +kernel) (by decide) (by decide) ⟨rfl, [x0, ka, wa], insA ks p (key x1), insA ws p (0 ||| bit x1), n, ⟨ka, wa, kk, kw, X, Fk, Fw, Fc, Ak2, Aw3, ga, by rw [lk]; omega, Or.inr ⟨by omega, rfl, gk, gw, nkw⟩⟩, Rp.ins hp g1 g2, hn4, by omega, KK, fun x hx => by rcases List.mem_cons.mp hx with rfl | hx; exact Or.inl hox; exact hin x hx⟩
    refine Run.pure hK (seg := [(36, .istore_n 3, 1), (37, .iload_n 3, 1)]) (by decide +kernel) (pc' := 38) (L' := #[.val (.ref x0), .val (.int x1), .val (.int (XT.ushr x1 (6 : Int32))), .val (.int (-((Int32.ofNat p) + (1 : Int32)))), .unset]) (S' := [(.int (-((Int32.ofNat p) + (1 : Int32))))]) rfl ?_
    refine Run.ifz hK (cd := .ge) (o := 124) (by decide +kernel) (by decide) (pc' := 162) rfl (fun q => by replace q := (h_ge _ _).1 q; exact absurd (show -(Int32.ofNat p + (1 : Int32)) < 0 by rw [Int32.lt_iff_toInt_lt, neg_val (by omega), tI0]; omega) q) (fun _ => ?_)
    refine Run.pure hK (seg := [(41, .iload_n 3, 1), (42, .ineg, 1), (43, .iconst 1, 1), (44, .isub, 1)]) (by decide +kernel) (pc' := 45) (L' := #[.val (.ref x0), .val (.int x1), .val (.int (XT.ushr x1 (6 : Int32))), .val (.int (-((Int32.ofNat p) + (1 : Int32)))), .unset]) (S' := [(.int ((-(-((Int32.ofNat p) + (1 : Int32)))) - (1 : Int32)))]) rfl ?_
    rw [back_val (by omega)]
    refine Run.pure hK (seg := [(45, .istore_n 3, 1)]) (by decide +kernel) (pc' := 46) (L' := #[.val (.ref x0), .val (.int x1), .val (.int (XT.ushr x1 (6 : Int32))), .val (.int (Int32.ofNat p)), .unset]) (S' := []) rfl ?_
    refine Run.pure hK (seg := [(46, .aload_n 0, 1)]) (by decide +kernel) (pc' := 47) (L' := #[.val (.ref x0), .val (.int x1), .val (.int (XT.ushr x1 (6 : Int32))), .val (.int (Int32.ofNat p)), .unset]) (S' := [(.ref x0)]) rfl ?_
    refine Run.getf hK (index := 26) (host := "") (Or.inl (hw _ (List.mem_of_getElem? (i := 21) rfl))) Via.refl Fc (by decide +kernel) ?_
    refine Run.pure hK (seg := [(50, .aload_n 0, 1)]) (by decide +kernel) (pc' := 51) (L' := #[.val (.ref x0), .val (.int x1), .val (.int (XT.ushr x1 (6 : Int32))), .val (.int (Int32.ofNat p)), .unset]) (S' := [(.ref x0), (.int (Int32.ofNat ks.length))]) rfl ?_
    refine Run.getf hK (index := 20) (host := "") (Or.inl (hw _ (List.mem_of_getElem? (i := 17) rfl))) Via.refl Fk (by decide +kernel) ?_
    refine Run.alen hK Ak (by decide +kernel) ?_
    refine Run.icmp hK (cd := .ne) (o := 41) (by decide +kernel) (by decide) (pc' := 96) rfl (fun q2 => ?_) (fun q2 => ?_)
    · replace q2 := (h_ne _ _).1 q2
      have hlt : ks.length < n := by rcases Nat.lt_or_ge ks.length n with r | r; exact r; exact absurd (show Int32.ofNat ks.length = Int32.ofNat n by rw [show ks.length = n by omega]) q2
      obtain ⟨hn0, rfl, gk, gw, nkw⟩ : n ≠ 0 ∧ ow = [x0, ka, wa] ∧ Z.heap.size ≤ ka ∧ Z.heap.size ≤ wa ∧ ka ≠ wa := by rcases hO4 with q | q; (exfalso; omega); exact q
      exact Run.mono (tail _ ka wa kk kw n _ hn4 hlt X Fk Fw Fc Ak Aw gk gw nkw (Keep.refl _ _) (fun x hx => Or.inl (List.mem_cons_of_mem _ hx))) (by decide) (by decide)
    · have x0lt := X.lt
      replace q2 := (h_ne _ _).2 q2
      have hen : ks.length = n := by have z := congrArg Int32.toInt q2; rw [ofN (by omega), ofN (by omega)] at z; omega
      obtain ⟨m, hm, hm4, hlm⟩ : ∃ m : Nat, (if (2 : Int32) < (2 : Int32) * Int32.ofNat ks.length then (2 : Int32) * Int32.ofNat ks.length else 2) = Int32.ofNat m ∧ m ≤ 4 ∧ ks.length < m := by
        have e : ks.length = 0 ∨ ks.length = 1 ∨ ks.length = 2 := by omega
        rcases e with e | e | e <;> rw [e]
        · exact ⟨2, by decide, by decide, by decide⟩
        · exact ⟨2, by decide, by decide, by decide⟩
        · exact ⟨4, by decide, by decide, by decide⟩
      refine Run.pure hK (seg := [(58, .iconst 2, 1), (59, .iconst 2, 1), (60, .aload_n 0, 1)]) (by decide +kernel) (pc' := 61) (L' := #[.val (.ref x0), .val (.int x1), .val (.int (XT.ushr x1 (6 : Int32))), .val (.int (Int32.ofNat p)), .unset]) (S' := [(.ref x0), (.int (2 : Int32)), (.int (2 : Int32))]) rfl ?_
      refine Run.getf hK (index := 26) (host := "") (Or.inl (hw _ (List.mem_of_getElem? (i := 21) rfl))) Via.refl Fc (by decide +kernel) ?_
      refine Run.pure hK (seg := [(64, .imul, 1)]) (by decide +kernel) (pc' := 65) (L' := #[.val (.ref x0), .val (.int x1), .val (.int (XT.ushr x1 (6 : Int32))), .val (.int (Int32.ofNat p)), .unset]) (S' := [(.int ((2 : Int32) * (Int32.ofNat ks.length))), (.int (2 : Int32))]) rfl ?_
      refine Run.static hK (index := 63) (y := (⟨"java/lang/Math", "max", "(II)I"⟩ : MethodName)) (Wt := 0) (kc := 0) (ks := 0) (hw _ (List.mem_of_getElem? (i := 38) rfl)) (hw _ (List.mem_of_getElem? (i := 39) rfl)) (hw _ (List.mem_of_getElem? (i := 40) rfl)) (hw _ (List.mem_of_getElem? (i := 41) rfl)) (by decide) (W' := []) (fun _ q => nomatch q) (Ctr.cal (c_max G (2 : Int32) ((2 : Int32) * Int32.ofNat ks.length) h1) (hw _ (List.mem_of_getElem? (i := 41) rfl)) (hw _ (List.mem_of_getElem? (i := 40) rfl)) (by decide) (by decide)) rfl (argsL := [(.int (2 : Int32)), (.int ((2 : Int32) * (Int32.ofNat ks.length)))]) (rest := []) (lenOf pd_ii rfl) rfl (Nat.le_of_ble_eq_true rfl) (by decide +kernel) (by decide) (by decide) (fun v2 h2 q2 n2 => ?_)
      obtain ⟨rfl, rfl⟩ := q2
      rw [hm]
      refine Run.pure hK (seg := [(68, .istore 4, 2), (70, .aload_n 0, 1), (71, .aload_n 0, 1)]) (by decide +kernel) (pc' := 72) (L' := #[.val (.ref x0), .val (.int x1), .val (.int (XT.ushr x1 (6 : Int32))), .val (.int (Int32.ofNat p)), .val (.int (Int32.ofNat m))]) (S' := [(.ref x0), (.ref x0)]) rfl ?_
      refine Run.getf hK (index := 20) (host := "") (Or.inl (hw _ (List.mem_of_getElem? (i := 17) rfl))) Via.refl Fk (by decide +kernel) ?_
      refine Run.pure hK (seg := [(75, .iload 4, 2)]) (by decide +kernel) (pc' := 77) (L' := #[.val (.ref x0), .val (.int x1), .val (.int (XT.ushr x1 (6 : Int32))), .val (.int (Int32.ofNat p)), .val (.int (Int32.ofNat m))]) (S' := [(.int (Int32.ofNat m)), (.ref ka), (.ref x0)]) rfl ?_
      refine Run.static hK (index := 30) (y := (⟨"java/util/Arrays", "copyOf", "([II)[I"⟩ : MethodName)) (Wt := 1) (kc := 1) (ks := 4) (hw _ (List.mem_of_getElem? (i := 42) rfl)) (hw _ (List.mem_of_getElem? (i := 43) rfl)) (hw _ (List.mem_of_getElem? (i := 30) rfl)) (hw _ (List.mem_of_getElem? (i := 44) rfl)) (by decide) (W' := []) (fun _ q => nomatch q) (Ctr.cal (c_cpi G ka m h2 Ak (by rw [List.length_map]; exact hln) (by omega) hm4) (hw _ (List.mem_of_getElem? (i := 44) rfl)) (hw _ (List.mem_of_getElem? (i := 30) rfl)) (by decide) (by decide)) rfl (argsL := [(.ref ka), (.int (Int32.ofNat m))]) (rest := [(.ref x0)]) (lenOf pd_cpi rfl) rfl (Nat.le_of_ble_eq_true rfl) (by decide +kernel) (by decide) (by decide) (fun v3 h3 q3 n3 => ?_)
      obtain ⟨a3, k3, rfl, z3, A3, E3⟩ := q3
      replace Fk := Fk.ext E3
      replace Fw := Fw.ext E3
      replace Fc := Fc.ext E3
      replace X := X.ext E3
      replace Aw := Aw.ext E3
      refine Run.putf hK (index := 20) (host := "") (Or.inl (hw _ (List.mem_of_getElem? (i := 17) rfl))) Via.refl Fk X (Or.inl (hw _ (List.mem_of_getElem? (i := 18) rfl))) (hw _ (List.mem_of_getElem? (i := 2) rfl)) (ty := (.array .int)) (by decide) rfl rfl ga (sfE X (by decide) (by decide)) (by decide +kernel) (fun h4 W4 => ?_)
      replace Fk := Fk.same W4
      replace Fw := Fw.other W4 (Or.inr (slot_ne (Or.inl (hw _ (List.mem_of_getElem? (i := 20) rfl))) (Or.inl (hw _ (List.mem_of_getElem? (i := 18) rfl))) (by decide) (by decide : parseFieldDescriptor "[J" = some (.array .long)) (by decide : parseFieldDescriptor "[I" = some (.array .int))))
      replace Fc := Fc.other W4 (Or.inr (slot_ne (Or.inl (hw _ (List.mem_of_getElem? (i := 22) rfl))) (Or.inl (hw _ (List.mem_of_getElem? (i := 18) rfl))) (by decide) (by decide : parseFieldDescriptor "I" = some .int) (by decide : parseFieldDescriptor "[I" = some (.array .int))))
      replace X := X.wr W4
      have n3 : a3 ≠ x0 := fun z => absurd x0lt (by rw [← z, z3]; exact Nat.lt_irrefl _)
      replace A3 := A3.other W4 n3
      replace Aw := Aw.other W4 nw.symm
      refine Run.pure hK (seg := [(83, .aload_n 0, 1), (84, .aload_n 0, 1)]) (by decide +kernel) (pc' := 85) (L' := #[.val (.ref x0), .val (.int x1), .val (.int (XT.ushr x1 (6 : Int32))), .val (.int (Int32.ofNat p)), .val (.int (Int32.ofNat m))]) (S' := [(.ref x0), (.ref x0)]) rfl ?_
      refine Run.getf hK (index := 23) (host := "") (Or.inl (hw _ (List.mem_of_getElem? (i := 19) rfl))) Via.refl Fw (by decide +kernel) ?_
      refine Run.pure hK (seg := [(88, .iload 4, 2)]) (by decide +kernel) (pc' := 90) (L' := #[.val (.ref x0), .val (.int x1), .val (.int (XT.ushr x1 (6 : Int32))), .val (.int (Int32.ofNat p)), .val (.int (Int32.ofNat m))]) (S' := [(.int (Int32.ofNat m)), (.ref wa), (.ref x0)]) rfl ?_
      refine Run.static hK (index := 36) (y := (⟨"java/util/Arrays", "copyOf", "([JI)[J"⟩ : MethodName)) (Wt := 1) (kc := 1) (ks := 4) (hw _ (List.mem_of_getElem? (i := 53) rfl)) (hw _ (List.mem_of_getElem? (i := 54) rfl)) (hw _ (List.mem_of_getElem? (i := 30) rfl)) (hw _ (List.mem_of_getElem? (i := 55) rfl)) (by decide) (W' := []) (fun _ q => nomatch q) (Ctr.cal (c_cpj G wa m h4 Aw (by rw [List.length_map]; omega) (by omega) hm4) (hw _ (List.mem_of_getElem? (i := 55) rfl)) (hw _ (List.mem_of_getElem? (i := 30) rfl)) (by decide) (by decide)) rfl (argsL := [(.ref wa), (.int (Int32.ofNat m))]) (rest := [(.ref x0)]) (lenOf pd_cpj rfl) rfl (Nat.le_of_ble_eq_true rfl) (by decide +kernel) (by decide) (by decide) (fun v5 h5 q5 n5 => ?_)
      obtain ⟨a5, k5, rfl, z5, A5, E5⟩ := q5
      have l3 := A3.lt
      have x4lt := X.lt
      have n35 : a3 ≠ a5 := fun z => absurd l3 (by rw [z, z5]; exact Nat.lt_irrefl _)
      have n5 : a5 ≠ x0 := fun z => absurd x4lt (by rw [← z, z5]; exact Nat.lt_irrefl _)
      replace Fk := Fk.ext E5
      replace Fw := Fw.ext E5
      replace Fc := Fc.ext E5
      replace X := X.ext E5
      replace A3 := A3.ext E5
      refine Run.putf hK (index := 23) (host := "") (Or.inl (hw _ (List.mem_of_getElem? (i := 19) rfl))) Via.refl Fw X (Or.inl (hw _ (List.mem_of_getElem? (i := 20) rfl))) (hw _ (List.mem_of_getElem? (i := 2) rfl)) (ty := (.array .long)) (by decide) rfl rfl ga (sfE X (by decide) (by decide)) (by decide +kernel) (fun h6 W6 => ?_)
      replace Fk := Fk.other W6 (Or.inr (slot_ne (Or.inl (hw _ (List.mem_of_getElem? (i := 18) rfl))) (Or.inl (hw _ (List.mem_of_getElem? (i := 20) rfl))) (by decide) (by decide : parseFieldDescriptor "[I" = some (.array .int)) (by decide : parseFieldDescriptor "[J" = some (.array .long))))
      replace Fw := Fw.same W6
      replace Fc := Fc.other W6 (Or.inr (slot_ne (Or.inl (hw _ (List.mem_of_getElem? (i := 22) rfl))) (Or.inl (hw _ (List.mem_of_getElem? (i := 20) rfl))) (by decide) (by decide : parseFieldDescriptor "I" = some .int) (by decide : parseFieldDescriptor "[J" = some (.array .long))))
      replace X := X.wr W6
      replace A3 := A3.other W6 n3
      replace A5 := A5.other W6 n5
      have K4 := ((Keep.refl _ ow).ext E3).wr W4 (Or.inl hox)
      have K6 := (K4.ext E5).wr W6 (Or.inl hox)
      refine Run.less (W' := []) ?_ (fun _ q => nomatch q)
      exact tail _ a3 a5 k3 k5 m _ hm4 hlm X Fk Fw Fc A3 A5 (by rw [z3]; exact hO.1) (by rw [z5]; exact Nat.le_trans hO.1 K4.1) n35 K6 (fun x hx => Or.inr (by rcases List.mem_cons.mp hx with rfl | hx; (rw [z3]; exact Nat.le_refl _); cases List.mem_singleton.mp hx; rw [z5]; exact K4.1))
theorem pn_law : plainName "com/example/liveness/liveness/IntSetAddAllPinLaw" = true := by first | (simp [plainName, overriddenIn]; done) | decide +kernel
theorem pn_lo : plainName "java/lang/Long" = true := by first | (simp [plainName, overriddenIn]; done) | decide +kernel
theorem pd_bc : parseMethodDescriptor "(J)I" = some ⟨[.long], some .int⟩ := by decide +kernel
theorem pd_sz : parseMethodDescriptor "()I" = some ⟨[], some .int⟩ := by decide +kernel
theorem pd_co : parseMethodDescriptor "(I)Z" = some ⟨[.int], some .boolean⟩ := by decide +kernel
theorem pd_dd : parseMethodDescriptor "(ZIZIZIZI)I" = some ⟨[.boolean, .int, .boolean, .int, .boolean, .int, .boolean, .int], some .int⟩ := by decide +kernel
theorem pd_aa : parseMethodDescriptor "(Lcom/example/liveness/liveness/IntSet;)V" = some ⟨[(.object "com/example/liveness/liveness/IntSet")], none⟩ := by decide +kernel
theorem cmp0 {a b : Int64} : XT.cmpL a b = 0 ↔ a = b := by
  unfold XT.cmpL
  by_cases q : b < a
  · rw [if_pos q]; refine ⟨fun z => absurd z (by decide), fun z => ?_⟩
    subst z; exact absurd q Int64.lt_irrefl
  · rw [if_neg q]
    by_cases r : a = b
    · rw [if_pos r]; exact ⟨fun _ => r, fun _ => rfl⟩
    · rw [if_neg r]; exact ⟨fun z => absurd z (by decide), fun z => absurd z r⟩
theorem nn31 (x : Int32) : ¬ (x &&& 2147483647) < 0 := by
  have a := c_and x 2147483647 (by decide)
  rw [Int32.lt_iff_toInt_lt, tI0]; omega
theorem ofN_add' (a b : Nat) : Int32.ofNat a + Int32.ofNat b = Int32.ofNat (a + b) := (Int32.ofNat_add a b).symm
def Mf (g x : Int32) (M : List Int32) : List Int32 := if g = 0 then M else x :: M
theorem Mf0 {g x : Int32} {M : List Int32} (h : g = 0) : Mf g x M = M := if_pos h
theorem Mf1 {g x : Int32} {M : List Int32} (h : ¬ g = 0) : Mf g x M = x :: M := if_neg h
theorem Mf_app (g x : Int32) (M N : List Int32) : Mf g x M ++ N = Mf g x (M ++ N) := by unfold Mf; split <;> rfl
theorem mem_Mf {g x p : Int32} {M : List Int32} : p ∈ Mf g x M ↔ (¬ g = 0 ∧ p = x) ∨ p ∈ M := by
  by_cases q : g = 0
  · rw [Mf0 q]; exact ⟨Or.inr, fun z => z.elim (fun y => absurd q y.1) id⟩
  · rw [Mf1 q, List.mem_cons]; exact ⟨fun z => z.imp (fun y => ⟨q, y⟩) id, fun z => z.imp (fun y => y.2) id⟩
theorem Mf_nn {g x : Int32} {M : List Int32} (hx : ¬ x < 0) (h : ∀ e ∈ M, ¬ e < 0) : ∀ e ∈ Mf g x M, ¬ e < 0 := fun e he => by
  rcases mem_Mf.mp he with ⟨-, rfl⟩ | q
  · exact hx
  · exact h e q
theorem dd_in {e : Int32} {M : List Int32} (h : e ∈ M) : dd (e :: M) = dd M := by rw [show dd (e :: M) = if e ∈ M then dd M else dd M + 1 from rfl, if_pos h]
theorem dd_out {e : Int32} {M : List Int32} (h : ¬ e ∈ M) : dd (e :: M) = dd M + 1 := by rw [show dd (e :: M) = if e ∈ M then dd M else dd M + 1 from rfl, if_neg h]
def IV (Z : State) (h : Heap) (a : Addr) (ks : List Int32) (ws : List Int64) (n : Nat) : Prop :=
  ∃ (ka wa : Addr) (kk kw : ClassId), Exa Z h a "com/example/liveness/liveness/IntSet" ∧ Fld Z h a "com/example/liveness/liveness/IntSet" "keys" "[I" (.ref ka) ∧ Fld Z h a "com/example/liveness/liveness/IntSet" "words" "[J" (.ref wa) ∧ Fld Z h a "com/example/liveness/liveness/IntSet" "count" "I" (.int (Int32.ofNat ks.length)) ∧ Arv Z h ka kk .int (Int32.ofNat n) (ks.map Value.int) (.int 0) ∧ Arv Z h wa kw .long (Int32.ofNat n) (ws.map Value.long) (.long 0) ∧ ks.length ≤ n
theorem IS.iv {Z : State} {h : Heap} {ow : List Addr} {a : Addr} {ks : List Int32} {ws : List Int64} {n : Nat} (F : IS Z h ow a ks ws n) : IV Z h a ks ws n := by
  obtain ⟨ka, wa, kk, kw, f1, f2, f3, f4, f5, f6, f7, f8, r⟩ := F
  exact ⟨ka, wa, kk, kw, f1, f2, f3, f4, f5, f6, f8⟩
theorem IS.at {Z : State} {h : Heap} {ow : List Addr} {a : Addr} {ks : List Int32} {ws : List Int64} {n : Nat} (F : IS Z h ow a ks ws n) : Z.heap.size ≤ a := by
  obtain ⟨ka, wa, kk, kw, f1, f2, f3, f4, f5, f6, f7, r⟩ := F; exact f7
theorem IS.mem {Z : State} {h : Heap} {ow : List Addr} {a : Addr} {ks : List Int32} {ws : List Int64} {n : Nat} (F : IS Z h ow a ks ws n) : a ∈ ow := by
  obtain ⟨ka, wa, kk, kw, f1, f2, f3, f4, f5, f6, f7, f8, q⟩ := F
  rcases q with ⟨-, rfl, -⟩ | ⟨-, rfl, -⟩ <;> exact List.mem_cons_self ..
theorem IS.ge {Z : State} {h : Heap} {ow : List Addr} {a : Addr} {ks : List Int32} {ws : List Int64} {n : Nat} (F : IS Z h ow a ks ws n) : ∀ x ∈ ow, Z.heap.size ≤ x := by
  obtain ⟨ka, wa, kk, kw, f1, f2, f3, f4, f5, f6, f7, -, q⟩ := F
  intro x hx
  rcases q with ⟨-, rfl, -⟩ | ⟨-, rfl, r1, r2, -⟩
  · cases List.mem_singleton.mp hx; exact f7
  · simp only [List.mem_cons, List.not_mem_nil, or_false] at hx
    rcases hx with rfl | rfl | rfl
    · exact f7
    · exact r1
    · exact r2
theorem IS.keep {Z : State} {h h' : Heap} {ow ow2 : List Addr} {a : Addr} {ks : List Int32} {ws : List Int64} {n : Nat} (F : IS Z h ow a ks ws n) (K : Keep h h' ow2) (hd : ∀ x ∈ ow, x ∉ ow2) (hg : ∀ x ∈ ow2, Z.heap.size ≤ x) : IS Z h' ow a ks ws n := by
  obtain ⟨ka, wa, kk, kw, f1, f2, f3, f4, f5, f6, f7, f8, q⟩ := F
  have na : a ∉ ow2 := hd a (by rcases q with ⟨-, rfl, -⟩ | ⟨-, rfl, -⟩ <;> exact List.mem_cons_self ..)
  have nk : ka ∉ ow2 := by
    rcases q with ⟨-, -, r, -⟩ | ⟨-, rfl, -⟩
    · exact fun z => absurd (hg _ z) (Nat.not_le.mpr r)
    · exact hd _ (by simp)
  have nw : wa ∉ ow2 := by
    rcases q with ⟨-, -, -, r⟩ | ⟨-, rfl, -⟩
    · exact fun z => absurd (hg _ z) (Nat.not_le.mpr r)
    · exact hd _ (by simp)
  exact ⟨ka, wa, kk, kw, f1.keep K, f2.keep K na, f3.keep K na, f4.keep K na, f5.keep K nk, f6.keep K nw, f7, f8, q⟩
theorem IV.exa {Z : State} {h : Heap} {a : Addr} {ks : List Int32} {ws : List Int64} {n : Nat} (F : IV Z h a ks ws n) : Exa Z h a "com/example/liveness/liveness/IntSet" := by
  obtain ⟨ka, wa, kk, kw, f1, r⟩ := F; exact f1
theorem IV.keep {Z : State} {a0 : Array Value} {h h' : Heap} {a x0 : Addr} {ks : List Int32} {ws : List Int64} {n k : Nat} (F : IV Z h a ks ws n) (K : Keep h h' [x0]) (X : Exa Z h x0 "com/example/liveness/liveness/IntSet") (w : (Jvm.Cond.instantiable "com/example/liveness/liveness/IntSet" k).before a0 Z = true) (hne : a ≠ x0) : IV Z h' a ks ws n := by
  obtain ⟨ka, wa, kk, kw, f1, f2, f3, f4, f5, f6, f7⟩ := F
  have na : a ∉ [x0] := fun z => hne (List.mem_singleton.mp z)
  have nk : ka ∉ [x0] := fun z => X.neArv f5 w (List.mem_singleton.mp z).symm
  have nw : wa ∉ [x0] := fun z => X.neArv f6 w (List.mem_singleton.mp z).symm
  exact ⟨ka, wa, kk, kw, f1.keep K, f2.keep K na, f3.keep K na, f4.keep K na, f5.keep K nk, f6.keep K nw, f7⟩
def TS (Z : State) (h : Heap) (a b : Addr) (MA MB : List Int32) (la lb : Nat) : Prop := ∃ (owa : List Addr) (ka : List Int32) (wa : List Int64) (na : Nat) (owb : List Addr) (kb : List Int32) (wb : List Int64) (nb : Nat), IS Z h owa a ka wa na ∧ IS Z h owb b kb wb nb ∧ Rep ka wa MA ∧ Rep kb wb MB ∧ na ≤ 4 ∧ nb ≤ 4 ∧ ka.length ≤ la ∧ kb.length ≤ lb ∧ ∀ x ∈ owa, x ∉ owb
theorem TS.wk {Z : State} {h : Heap} {a b : Addr} {MA MB : List Int32} {la lb la' lb' : Nat} (F : TS Z h a b MA MB la lb) (h1 : la ≤ la') (h2 : lb ≤ lb') : TS Z h a b MA MB la' lb' := by
  obtain ⟨owa, ka, wa, na, owb, kb, wb, nb, f1, f2, f3, f4, f5, f6, f7, f8, f9⟩ := F
  exact ⟨owa, ka, wa, na, owb, kb, wb, nb, f1, f2, f3, f4, f5, f6, Nat.le_trans f7 h1, Nat.le_trans f8 h2, f9⟩
set_option maxRecDepth 65536 in
set_option maxHeartbeats 40000000 in
theorem c_bc {l : Launch} {Z : State} {a0 : Array Value} (G : Env1 Z a0) (w0 : Int64) (h : Heap) : Ctr Z [] true l [] (⟨"java/lang/Long", "bitCount", "(J)I"⟩ : MethodName) jdk_35_method_50_code 2 (some .int) ({ frames := 0, cells := 0, slots := 0, locals := 0 } : Room) #[(.long w0)] h [] (fun v h' => h' = h ∧ v = some (.int (bcv w0))) := by
  obtain ⟨hw, N1, N2, nk1, nk2, NS1, NA1, NS2, NA2⟩ := id G; have hEL := (EW.nil : EW Z a0 [])
  refine Ctr.of_run (a0 := a0) (L0 := #[.val (.long w0), .second]) (plainFor_of_name pn_lo) hEL (by first | (simp [argsToLocals, Value.category, maxLocals]; done) | rfl) (fun K hK => ?_)
  refine Run.pure hK (seg := [(0, .lload_n 0, 1), (1, .lload_n 0, 1), (2, .iconst 1, 1), (3, .lushr, 1)]) (by decide +kernel) (pc' := 4) (L' := #[.val (.long w0), .second]) (S' := [(.long (XT.ushrL w0 (1 : Int32))), (.long w0)]) rfl ?_
  refine Run.ldcl hK (index := 314) (hw _ (List.mem_of_getElem? (i := 77) rfl)) (by decide +kernel) ?_
  refine Run.pure hK (seg := [(7, .land, 1), (8, .lsub, 1)]) (by decide +kernel) (pc' := 9) (L' := #[.val (.long w0), .second]) (S' := [(.long (w0 - ((XT.ushrL w0 (1 : Int32)) &&& (6148914691236517205 : Int64))))]) rfl ?_
  obtain ⟨y1, e_y1⟩ : ∃ z : Int64, z = (w0 - ((XT.ushrL w0 (1 : Int32)) &&& (6148914691236517205 : Int64))) := ⟨_, rfl⟩
  rw [← e_y1]
  refine Run.pure hK (seg := [(9, .lstore_n 0, 1)]) (by decide +kernel) (pc' := 10) (L' := #[.val (.long y1), .second]) (S' := []) rfl ?_
  refine Run.pure hK (seg := [(10, .lload_n 0, 1)]) (by decide +kernel) (pc' := 11) (L' := #[.val (.long y1), .second]) (S' := [(.long y1)]) rfl ?_
  refine Run.ldcl hK (index := 316) (hw _ (List.mem_of_getElem? (i := 78) rfl)) (by decide +kernel) ?_
  refine Run.pure hK (seg := [(14, .land, 1), (15, .lload_n 0, 1), (16, .iconst 2, 1), (17, .lushr, 1)]) (by decide +kernel) (pc' := 18) (L' := #[.val (.long y1), .second]) (S' := [(.long (XT.ushrL y1 (2 : Int32))), (.long (y1 &&& (3689348814741910323 : Int64)))]) rfl ?_
  refine Run.ldcl hK (index := 316) (hw _ (List.mem_of_getElem? (i := 78) rfl)) (by decide +kernel) ?_
  refine Run.pure hK (seg := [(21, .land, 1), (22, .ladd, 1)]) (by decide +kernel) (pc' := 23) (L' := #[.val (.long y1), .second]) (S' := [(.long ((y1 &&& (3689348814741910323 : Int64)) + ((XT.ushrL y1 (2 : Int32)) &&& (3689348814741910323 : Int64))))]) rfl ?_
  obtain ⟨y2, e_y2⟩ : ∃ z : Int64, z = ((y1 &&& (3689348814741910323 : Int64)) + ((XT.ushrL y1 (2 : Int32)) &&& (3689348814741910323 : Int64))) := ⟨_, rfl⟩
  rw [← e_y2]
  refine Run.pure hK (seg := [(23, .lstore_n 0, 1)]) (by decide +kernel) (pc' := 24) (L' := #[.val (.long y2), .second]) (S' := []) rfl ?_
  refine Run.pure hK (seg := [(24, .lload_n 0, 1), (25, .lload_n 0, 1), (26, .iconst 4, 1), (27, .lushr, 1), (28, .ladd, 1)]) (by decide +kernel) (pc' := 29) (L' := #[.val (.long y2), .second]) (S' := [(.long (y2 + (XT.ushrL y2 (4 : Int32))))]) rfl ?_
  refine Run.ldcl hK (index := 318) (hw _ (List.mem_of_getElem? (i := 79) rfl)) (by decide +kernel) ?_
  refine Run.pure hK (seg := [(32, .land, 1)]) (by decide +kernel) (pc' := 33) (L' := #[.val (.long y2), .second]) (S' := [(.long ((y2 + (XT.ushrL y2 (4 : Int32))) &&& (1085102592571150095 : Int64)))]) rfl ?_
  obtain ⟨y3, e_y3⟩ : ∃ z : Int64, z = ((y2 + (XT.ushrL y2 (4 : Int32))) &&& (1085102592571150095 : Int64)) := ⟨_, rfl⟩
  rw [← e_y3]
  refine Run.pure hK (seg := [(33, .lstore_n 0, 1)]) (by decide +kernel) (pc' := 34) (L' := #[.val (.long y3), .second]) (S' := []) rfl ?_
  refine Run.pure hK (seg := [(34, .lload_n 0, 1), (35, .lload_n 0, 1), (36, .bipush 8, 2), (38, .lushr, 1), (39, .ladd, 1)]) (by decide +kernel) (pc' := 40) (L' := #[.val (.long y3), .second]) (S' := [(.long (y3 + (XT.ushrL y3 (8 : Int32))))]) rfl ?_
  obtain ⟨y4, e_y4⟩ : ∃ z : Int64, z = (y3 + (XT.ushrL y3 (8 : Int32))) := ⟨_, rfl⟩
  rw [← e_y4]
  refine Run.pure hK (seg := [(40, .lstore_n 0, 1)]) (by decide +kernel) (pc' := 41) (L' := #[.val (.long y4), .second]) (S' := []) rfl ?_
  refine Run.pure hK (seg := [(41, .lload_n 0, 1), (42, .lload_n 0, 1), (43, .bipush 16, 2), (45, .lushr, 1), (46, .ladd, 1)]) (by decide +kernel) (pc' := 47) (L' := #[.val (.long y4), .second]) (S' := [(.long (y4 + (XT.ushrL y4 (16 : Int32))))]) rfl ?_
  obtain ⟨y5, e_y5⟩ : ∃ z : Int64, z = (y4 + (XT.ushrL y4 (16 : Int32))) := ⟨_, rfl⟩
  rw [← e_y5]
  refine Run.pure hK (seg := [(47, .lstore_n 0, 1)]) (by decide +kernel) (pc' := 48) (L' := #[.val (.long y5), .second]) (S' := []) rfl ?_
  refine Run.pure hK (seg := [(48, .lload_n 0, 1), (49, .lload_n 0, 1), (50, .bipush 32, 2), (52, .lushr, 1), (53, .ladd, 1)]) (by decide +kernel) (pc' := 54) (L' := #[.val (.long y5), .second]) (S' := [(.long (y5 + (XT.ushrL y5 (32 : Int32))))]) rfl ?_
  obtain ⟨y6, e_y6⟩ : ∃ z : Int64, z = (y5 + (XT.ushrL y5 (32 : Int32))) := ⟨_, rfl⟩
  rw [← e_y6]
  refine Run.pure hK (seg := [(54, .lstore_n 0, 1)]) (by decide +kernel) (pc' := 55) (L' := #[.val (.long y6), .second]) (S' := []) rfl ?_
  refine Run.pure hK (seg := [(55, .lload_n 0, 1), (56, .l2i, 1), (57, .bipush 127, 2), (59, .iand, 1)]) (by decide +kernel) (pc' := 60) (L' := #[.val (.long y6), .second]) (S' := [(.int (y6.toInt32 &&& (127 : Int32)))]) rfl ?_
  have e : bcv w0 = y6.toInt32 &&& (127 : Int32) := by subst e_y6 e_y5 e_y4 e_y3 e_y2 e_y1; rfl
  rw [← e]
  exact Run.retw hK (i := .ireturn) rfl (Or.inl ⟨rfl, Or.inl rfl, _, rfl⟩) (by decide +kernel) (by decide) (by decide) ⟨rfl, rfl⟩
set_option maxRecDepth 65536 in
set_option maxHeartbeats 40000000 in
theorem c_sz {l : Launch} {Z : State} {a0 : Array Value} (G : Env1 Z a0) (x0 : Addr) {ks : List Int32} {ws : List Int64} {n : Nat} (h : Heap) (I : IV Z h x0 ks ws n) (hlw : ks.length = ws.length) (hn4 : n ≤ 4) : Ctr Z [] true l [] (⟨"com/example/liveness/liveness/IntSet", "size", "()I"⟩ : MethodName) prog_27_method_5_code 3 (some .int) ({ frames := 1, cells := 0, slots := 0, locals := 16 } : Room) #[(.ref x0)] h [] (fun v h' => h' = h ∧ v = some (.int (Int32.ofNat (ws.map pcw).sum))) := by
  obtain ⟨hw, N1, N2, nk1, nk2, NS1, NA1, NS2, NA2⟩ := id G; have hEL := (EW.nil : EW Z a0 [])
  refine Ctr.of_run (a0 := a0) (L0 := #[.val (.ref x0), .unset, .unset]) (plainFor_of_name pn_is) hEL (by first | (simp [argsToLocals, Value.category, maxLocals]; done) | rfl) (fun K hK => ?_)
  obtain ⟨ka, wa, kk, kw, X, Fk, Fw, Fc, Ak, Aw, hln⟩ := I
  refine Run.pure hK (seg := [(0, .iconst 0, 1), (1, .istore_n 1, 1), (2, .iconst 0, 1), (3, .istore_n 2, 1)]) (by decide +kernel) (pc' := 4) (L' := #[.val (.ref x0), .val (.int (0 : Int32)), .val (.int (0 : Int32))]) (S' := []) rfl ?_
  have ex : ∀ i : Nat, i = ks.length → Run Z [] true K (fun v h' => h' = h ∧ v = some (.int (Int32.ofNat (ws.map pcw).sum))) [] h 0 0 4 #[.val (.ref x0), .val (.int (Int32.ofNat ((ws.take i).map pcw).sum)), .val (.int (Int32.ofNat i))] [] := by
    intro i hi
    refine Run.pure hK (seg := [(4, .iload_n 2, 1), (5, .aload_n 0, 1)]) (by decide +kernel) (pc' := 6) (L' := #[.val (.ref x0), .val (.int (Int32.ofNat ((ws.take i).map pcw).sum)), .val (.int (Int32.ofNat i))]) (S' := [(.ref x0), (.int (Int32.ofNat i))]) rfl ?_
    refine Run.getf hK (index := 26) (host := "") (Or.inl (hw _ (List.mem_of_getElem? (i := 21) rfl))) Via.refl Fc (by decide +kernel) ?_
    refine Run.icmp hK (cd := .ge) (o := 21) (by decide +kernel) (by decide) (pc' := 30) rfl (fun _ => ?_) (fun q => by replace q := (h_ge _ _).2 q; exact absurd q (by rw [ofN_lt2 (by omega) (by omega)]; omega))
    rw [List.take_of_length_le (by omega : ws.length ≤ i)]
    refine Run.pure hK (seg := [(30, .iload_n 1, 1)]) (by decide +kernel) (pc' := 31) (L' := #[.val (.ref x0), .val (.int (Int32.ofNat (ws.map pcw).sum)), .val (.int (Int32.ofNat i))]) (S' := [(.int (Int32.ofNat (ws.map pcw).sum))]) rfl ?_
    exact Run.retw hK (i := .ireturn) rfl (Or.inl ⟨rfl, Or.inl rfl, _, rfl⟩) (by decide +kernel) (by decide) (by decide) ⟨rfl, rfl⟩
  have loop : ∀ m i : Nat, ks.length - i ≤ m → i ≤ ks.length → Run Z [] true K (fun v h' => h' = h ∧ v = some (.int (Int32.ofNat (ws.map pcw).sum))) [] h 0 0 4 #[.val (.ref x0), .val (.int (Int32.ofNat ((ws.take i).map pcw).sum)), .val (.int (Int32.ofNat i))] [] := by
    intro m
    induction m with
    | zero => intro i hm hi; exact ex i (by omega)
    | succ m ih =>
      intro i hm hi
      by_cases hlt : i < ks.length
      case neg => exact ex i (by omega)
      refine Run.pure hK (seg := [(4, .iload_n 2, 1), (5, .aload_n 0, 1)]) (by decide +kernel) (pc' := 6) (L' := #[.val (.ref x0), .val (.int (Int32.ofNat ((ws.take i).map pcw).sum)), .val (.int (Int32.ofNat i))]) (S' := [(.ref x0), (.int (Int32.ofNat i))]) rfl ?_
      refine Run.getf hK (index := 26) (host := "") (Or.inl (hw _ (List.mem_of_getElem? (i := 21) rfl))) Via.refl Fc (by decide +kernel) ?_
      refine Run.icmp hK (cd := .ge) (o := 21) (by decide +kernel) (by decide) (pc' := 30) rfl (fun q => by replace q := (h_ge _ _).1 q; exact absurd ((ofN_lt2 (by omega) (by omega)).mpr hlt) q) (fun _ => ?_)
      refine Run.pure hK (seg := [(12, .iload_n 1, 1), (13, .aload_n 0, 1)]) (by decide +kernel) (pc' := 14) (L' := #[.val (.ref x0), .val (.int (Int32.ofNat ((ws.take i).map pcw).sum)), .val (.int (Int32.ofNat i))]) (S' := [(.ref x0), (.int (Int32.ofNat ((ws.take i).map pcw).sum))]) rfl ?_
      refine Run.getf hK (index := 23) (host := "") (Or.inl (hw _ (List.mem_of_getElem? (i := 19) rfl))) Via.refl Fw (by decide +kernel) ?_
      refine Run.pure hK (seg := [(17, .iload_n 2, 1)]) (by decide +kernel) (pc' := 18) (L' := #[.val (.ref x0), .val (.int (Int32.ofNat ((ws.take i).map pcw).sum)), .val (.int (Int32.ofNat i))]) (S' := [(.int (Int32.ofNat i)), (.ref wa), (.int (Int32.ofNat ((ws.take i).map pcw).sum))]) rfl ?_
      refine Run.ald hK (i := .laload) (v := (.long (ws.getD i 0))) Aw (Or.inr (Or.inr (Or.inr ⟨rfl, rfl⟩))) ⟨ofN_nn (by omega), (ofN_lt2 (by omega) (by omega)).mpr (by omega)⟩ (by rw [ofN_nat (by omega), getD_mapJ]) (by decide +kernel) ?_
      refine Run.static hK (index := 39) (y := (⟨"java/lang/Long", "bitCount", "(J)I"⟩ : MethodName)) (Wt := 1) (kc := 0) (ks := 0) (hw _ (List.mem_of_getElem? (i := 73) rfl)) (hw _ (List.mem_of_getElem? (i := 74) rfl)) (hw _ (List.mem_of_getElem? (i := 75) rfl)) (hw _ (List.mem_of_getElem? (i := 76) rfl)) (by decide) (W' := []) (fun _ q => nomatch q) (Ctr.cal (c_bc G (ws.getD i 0) h) (hw _ (List.mem_of_getElem? (i := 76) rfl)) (hw _ (List.mem_of_getElem? (i := 75) rfl)) (by decide) (by decide)) rfl (argsL := [(.long (ws.getD i 0))]) (rest := [(.int (Int32.ofNat ((ws.take i).map pcw).sum))]) (lenOf pd_bc rfl) rfl (Nat.le_of_ble_eq_true rfl) (by decide +kernel) (by decide) (by decide) (fun v1 h1 q1 n1 => ?_)
      obtain ⟨rfl, rfl⟩ := q1
      refine Run.pure hK (seg := [(22, .iadd, 1), (23, .istore_n 1, 1), (24, .iinc 2 1, 3), (27, .goto (-23), 3)]) (by decide +kernel) (pc' := 4) (L' := #[.val (.ref x0), .val (.int ((Int32.ofNat ((ws.take i).map pcw).sum) + (bcv (ws.getD i 0)))), .val (.int ((Int32.ofNat i) + (1 : Int32)))]) (S' := []) rfl ?_
      have e : Int32.ofNat ((ws.take i).map pcw).sum + bcv (ws.getD i 0) = Int32.ofNat ((ws.take (i + 1)).map pcw).sum := by
        rw [bcv_eq, ofN_add', take_snoc 0 (by omega : i < ws.length), List.map_append, List.sum_append]; rfl
      rw [e, show Int32.ofNat i + (1 : Int32) = Int32.ofNat (i + 1) from ofN_add (n := i) (m := 1) (by omega)]
      exact ih (i + 1) (by omega) (by omega)
  exact loop ks.length 0 (by omega) (by omega)
set_option maxRecDepth 65536 in
set_option maxHeartbeats 40000000 in
theorem c_co {l : Launch} {Z : State} {a0 : Array Value} (G : Env1 Z a0) (x0 : Addr) (x1 : Int32) {ks M : List Int32} {ws : List Int64} {n : Nat} (h : Heap) (I : IV Z h x0 ks ws n) (Rp : Rep ks ws M) (hn4 : n ≤ 4) : Ctr Z [] true l [] (⟨"com/example/liveness/liveness/IntSet", "contains", "(I)Z"⟩ : MethodName) prog_27_method_6_code 3 (some .boolean) ({ frames := 2, cells := 0, slots := 0, locals := 44 } : Room) #[(.ref x0), (.int x1)] h [] (fun v h' => h' = h ∧ ∃ r, v = some (.int r) ∧ ((r = 1 ∧ x1 ∈ M) ∨ (r = 0 ∧ ¬ x1 ∈ M))) := by
  obtain ⟨hw, N1, N2, nk1, nk2, NS1, NA1, NS2, NA2⟩ := id G; have hEL := (EW.nil : EW Z a0 [])
  refine Ctr.of_run (a0 := a0) (L0 := #[.val (.ref x0), .val (.int x1), .unset]) (plainFor_of_name pn_is) hEL (by first | (simp [argsToLocals, Value.category, maxLocals]; done) | rfl) (fun K hK => ?_)
  obtain ⟨ka, wa, kk, kw, X, Fk, Fw, Fc, Ak, Aw, hln⟩ := I
  have hlw : ks.length = ws.length := Rp.2.1
  refine Run.pure hK (seg := [(0, .aload_n 0, 1)]) (by decide +kernel) (pc' := 1) (L' := #[.val (.ref x0), .val (.int x1), .unset]) (S' := [(.ref x0)]) rfl ?_
  refine Run.getf hK (index := 20) (host := "") (Or.inl (hw _ (List.mem_of_getElem? (i := 17) rfl))) Via.refl Fk (by decide +kernel) ?_
  refine Run.pure hK (seg := [(4, .iconst 0, 1), (5, .aload_n 0, 1)]) (by decide +kernel) (pc' := 6) (L' := #[.val (.ref x0), .val (.int x1), .unset]) (S' := [(.ref x0), (.int (0 : Int32)), (.ref ka)]) rfl ?_
  refine Run.getf hK (index := 26) (host := "") (Or.inl (hw _ (List.mem_of_getElem? (i := 21) rfl))) Via.refl Fc (by decide +kernel) ?_
  refine Run.pure hK (seg := [(9, .iload_n 1, 1), (10, .bipush 6, 2), (12, .iushr, 1)]) (by decide +kernel) (pc' := 13) (L' := #[.val (.ref x0), .val (.int x1), .unset]) (S' := [(.int (XT.ushr x1 (6 : Int32))), (.int (Int32.ofNat ks.length)), (.int (0 : Int32)), (.ref ka)]) rfl ?_
  refine Run.static hK (index := 45) (y := (⟨"java/util/Arrays", "binarySearch", "([IIII)I"⟩ : MethodName)) (Wt := 0) (kc := 0) (ks := 0) (hw _ (List.mem_of_getElem? (i := 28) rfl)) (hw _ (List.mem_of_getElem? (i := 29) rfl)) (hw _ (List.mem_of_getElem? (i := 30) rfl)) (hw _ (List.mem_of_getElem? (i := 31) rfl)) (by decide) (W' := []) (fun _ q => nomatch q) (Ctr.cal (c_bs G ka (XT.ushr x1 6) h Ak Rp.1 hln (by omega)) (hw _ (List.mem_of_getElem? (i := 31) rfl)) (hw _ (List.mem_of_getElem? (i := 30) rfl)) (by decide) (by decide)) rfl (argsL := [(.ref ka), (.int (0 : Int32)), (.int (Int32.ofNat ks.length)), (.int (XT.ushr x1 (6 : Int32)))]) (rest := []) (lenOf pd_bs rfl) rfl (Nat.le_of_ble_eq_true rfl) (by decide +kernel) (by decide) (by decide) (fun v1 h1 q1 n1 => ?_)
  obtain ⟨rfl, r, rfl, hr⟩ := q1
  rcases hr with ⟨i, hi, hk, rfl⟩ | ⟨p, hp, g1, g2, rfl⟩
  · have hg : gt ks ws (key x1) = ws.getD i 0 := by rw [← show ks.getD i 0 = key x1 from hk]; exact gt_at Rp.1 hlw hi
    have tk := tb_key Rp x1
    rw [hg] at tk
    refine Run.pure hK (seg := [(16, .istore_n 2, 1), (17, .iload_n 2, 1)]) (by decide +kernel) (pc' := 18) (L' := #[.val (.ref x0), .val (.int x1), .val (.int (Int32.ofNat i))]) (S' := [(.int (Int32.ofNat i))]) rfl ?_
    refine Run.ifz hK (cd := .lt) (o := 22) (by decide +kernel) (by decide) (pc' := 40) rfl (fun q => by replace q := (h_lt _ _).1 q; exact absurd q (ofN_nn (by omega))) (fun _ => ?_)
    refine Run.pure hK (seg := [(21, .aload_n 0, 1)]) (by decide +kernel) (pc' := 22) (L' := #[.val (.ref x0), .val (.int x1), .val (.int (Int32.ofNat i))]) (S' := [(.ref x0)]) rfl ?_
    refine Run.getf hK (index := 23) (host := "") (Or.inl (hw _ (List.mem_of_getElem? (i := 19) rfl))) Via.refl Fw (by decide +kernel) ?_
    refine Run.pure hK (seg := [(25, .iload_n 2, 1)]) (by decide +kernel) (pc' := 26) (L' := #[.val (.ref x0), .val (.int x1), .val (.int (Int32.ofNat i))]) (S' := [(.int (Int32.ofNat i)), (.ref wa)]) rfl ?_
    refine Run.ald hK (i := .laload) (v := (.long (ws.getD i 0))) Aw (Or.inr (Or.inr (Or.inr ⟨rfl, rfl⟩))) ⟨ofN_nn (by omega), (ofN_lt2 (by omega) (by omega)).mpr (by omega)⟩ (by rw [ofN_nat (by omega), getD_mapJ]) (by decide +kernel) ?_
    refine Run.pure hK (seg := [(27, .lconst 1, 1), (28, .iload_n 1, 1), (29, .lshl, 1), (30, .land, 1), (31, .lconst 0, 1), (32, .lcmp, 1)]) (by decide +kernel) (pc' := 33) (L' := #[.val (.ref x0), .val (.int x1), .val (.int (Int32.ofNat i))]) (S' := [(.int (XT.cmpL ((ws.getD i 0) &&& ((1 : Int64) <<< (x1.toInt64 &&& 63))) (0 : Int64)))]) rfl ?_
    refine Run.ifz hK (cd := .eq) (o := 7) (by decide +kernel) (by decide) (pc' := 40) rfl (fun q2 => ?_) (fun q2 => ?_)
    · replace q2 := (h_eq _ _).1 q2
      refine Run.pure hK (seg := [(40, .iconst 0, 1)]) (by decide +kernel) (pc' := 41) (L' := #[.val (.ref x0), .val (.int x1), .val (.int (Int32.ofNat i))]) (S' := [(.int (0 : Int32))]) rfl ?_
      exact Run.retw hK (i := .ireturn) rfl (Or.inl ⟨rfl, Or.inr (Or.inl rfl), _, rfl⟩) (by decide +kernel) (by decide) (by decide) ⟨rfl, _, rfl, Or.inr ⟨rfl, tk.mp (cmp0.mp q2)⟩⟩
    · replace q2 := (h_eq _ _).2 q2
      refine Run.pure hK (seg := [(36, .iconst 1, 1), (37, .goto 4, 3)]) (by decide +kernel) (pc' := 41) (L' := #[.val (.ref x0), .val (.int x1), .val (.int (Int32.ofNat i))]) (S' := [(.int (1 : Int32))]) rfl ?_
      exact Run.retw hK (i := .ireturn) rfl (Or.inl ⟨rfl, Or.inr (Or.inl rfl), _, rfl⟩) (by decide +kernel) (by decide) (by decide) ⟨rfl, _, rfl, Or.inl ⟨rfl, Classical.byContradiction fun z => q2 (cmp0.mpr (tk.mpr z))⟩⟩
  · refine Run.pure hK (seg := [(16, .istore_n 2, 1), (17, .iload_n 2, 1)]) (by decide +kernel) (pc' := 18) (L' := #[.val (.ref x0), .val (.int x1), .val (.int (-((Int32.ofNat p) + (1 : Int32))))]) (S' := [(.int (-((Int32.ofNat p) + (1 : Int32))))]) rfl ?_
    refine Run.ifz hK (cd := .lt) (o := 22) (by decide +kernel) (by decide) (pc' := 40) rfl (fun _ => ?_) (fun q => by replace q := (h_lt _ _).2 q; exact absurd (show -(Int32.ofNat p + (1 : Int32)) < 0 by rw [Int32.lt_iff_toInt_lt, neg_val (by omega), tI0]; omega) q)
    refine Run.pure hK (seg := [(40, .iconst 0, 1)]) (by decide +kernel) (pc' := 41) (L' := #[.val (.ref x0), .val (.int x1), .val (.int (-((Int32.ofNat p) + (1 : Int32))))]) (S' := [(.int (0 : Int32))]) rfl ?_
    exact Run.retw hK (i := .ireturn) rfl (Or.inl ⟨rfl, Or.inr (Or.inl rfl), _, rfl⟩) (by decide +kernel) (by decide) (by decide) ⟨rfl, _, rfl, Or.inr ⟨rfl, fun z => not_in g1 g2 (Rep.keys Rp x1 z)⟩⟩
set_option maxRecDepth 65536 in
set_option maxHeartbeats 40000000 in
theorem c_aa {l : Launch} {Z : State} {a0 : Array Value} (G : Env1 Z a0) (x0 x1 : Addr) {ak bk A B : List Int32} {aw bw : List Int64} {na nb : Nat} (h : Heap) (hx0 : Z.heap.size ≤ x0) (IA : IV Z h x0 ak aw na) (IB : IV Z h x1 bk bw nb) (RA : Rep ak aw A) (RB : Rep bk bw B) (ha4 : na ≤ 4) (hb4 : nb ≤ 4) (la2 : ak.length ≤ 2) (lb2 : bk.length ≤ 2) : Ctr Z [] true l [] (⟨"com/example/liveness/liveness/IntSet", "addAll", "(Lcom/example/liveness/liveness/IntSet;)V"⟩ : MethodName) prog_27_method_11_code 7 none ({ frames := 0, cells := 2, slots := 8, locals := 0 } : Room) #[(.ref x0), (.ref x1)] h [] (fun v h' => v = none ∧ ∃ (ks : List Int32) (ws : List Int64) (n : Nat), IV Z h' x0 ks ws n ∧ Rep ks ws (B ++ A) ∧ n ≤ 4 ∧ Keep h h' [x0]) := by
  obtain ⟨hw, N1, N2, nk1, nk2, NS1, NA1, NS2, NA2⟩ := id G; have hEL := (EW.nil : EW Z a0 [])
  refine Ctr.of_run (a0 := a0) (L0 := #[.val (.ref x0), .val (.ref x1), .unset, .unset, .unset, .unset, .unset]) (plainFor_of_name pn_is) hEL (by first | (simp [argsToLocals, Value.category, maxLocals]; done) | rfl) (fun K hK => ?_)
  obtain ⟨pa, pw, k1, k2, XA, Ak, Aw, Ac, A1, A2, la⟩ := IA
  obtain ⟨qa, qw, k3, k4, XB, Bk, Bw, Bc, B1, B2, lb⟩ := IB
  have ea := RA.2.1
  have eb := RB.2.1
  refine Run.old (fun hO => ?_)
  refine Run.pure hK (seg := [(0, .aload_n 0, 1)]) (by decide +kernel) (pc' := 1) (L' := #[.val (.ref x0), .val (.ref x1), .unset, .unset, .unset, .unset, .unset]) (S' := [(.ref x0)]) rfl ?_
  refine Run.getf hK (index := 26) (host := "") (Or.inl (hw _ (List.mem_of_getElem? (i := 21) rfl))) Via.refl Ac (by decide +kernel) ?_
  refine Run.pure hK (seg := [(4, .aload_n 1, 1)]) (by decide +kernel) (pc' := 5) (L' := #[.val (.ref x0), .val (.ref x1), .unset, .unset, .unset, .unset, .unset]) (S' := [(.ref x1), (.int (Int32.ofNat ak.length))]) rfl ?_
  refine Run.getf hK (index := 26) (host := "") (Or.inl (hw _ (List.mem_of_getElem? (i := 21) rfl))) Via.refl Bc (by decide +kernel) ?_
  refine Run.pure hK (seg := [(8, .iadd, 1)]) (by decide +kernel) (pc' := 9) (L' := #[.val (.ref x0), .val (.ref x1), .unset, .unset, .unset, .unset, .unset]) (S' := [(.int ((Int32.ofNat ak.length) + (Int32.ofNat bk.length)))]) rfl ?_
  rw [ofN_add (by omega : ak.length + bk.length ≤ 4000)]
  refine Run.newarr hK (aty := .int) (hw _ (List.mem_of_getElem? (i := 45) rfl)) (by decide +kernel) (ofN_nn (by omega)) (cap := 4) (by rw [ofN_nat (by omega)]; omega) (by decide) (by decide) (by decide) (fun hp kp Ep Ap => ?_)
  obtain ⟨ap, zp⟩ : ∃ z, z = h.size := ⟨_, rfl⟩
  rw [← zp]
  rw [← zp] at Ap
  refine Run.pure hK (seg := [(11, .astore_n 2, 1), (12, .aload_n 0, 1)]) (by decide +kernel) (pc' := 13) (L' := #[.val (.ref x0), .val (.ref x1), .val (.ref ap), .unset, .unset, .unset, .unset]) (S' := [(.ref x0)]) rfl ?_
  refine Run.getf hK (index := 26) (host := "") (Or.inl (hw _ (List.mem_of_getElem? (i := 21) rfl))) Via.refl (Ac.ext Ep) (by decide +kernel) ?_
  refine Run.pure hK (seg := [(16, .aload_n 1, 1)]) (by decide +kernel) (pc' := 17) (L' := #[.val (.ref x0), .val (.ref x1), .val (.ref ap), .unset, .unset, .unset, .unset]) (S' := [(.ref x1), (.int (Int32.ofNat ak.length))]) rfl ?_
  refine Run.getf hK (index := 26) (host := "") (Or.inl (hw _ (List.mem_of_getElem? (i := 21) rfl))) Via.refl (Bc.ext Ep) (by decide +kernel) ?_
  refine Run.pure hK (seg := [(20, .iadd, 1)]) (by decide +kernel) (pc' := 21) (L' := #[.val (.ref x0), .val (.ref x1), .val (.ref ap), .unset, .unset, .unset, .unset]) (S' := [(.int ((Int32.ofNat ak.length) + (Int32.ofNat bk.length)))]) rfl ?_
  rw [ofN_add (by omega : ak.length + bk.length ≤ 4000)]
  refine Run.newarr hK (aty := .long) (hw _ (List.mem_of_getElem? (i := 56) rfl)) (by decide +kernel) (ofN_nn (by omega)) (cap := 4) (by rw [ofN_nat (by omega)]; omega) (by decide) (by decide) (by decide) (fun hu ku Eu Au => ?_)
  obtain ⟨au, zu⟩ : ∃ z, z = hp.size := ⟨_, rfl⟩
  rw [← zu]
  rw [← zu] at Au
  refine Run.pure hK (seg := [(23, .astore_n 3, 1), (24, .iconst 0, 1), (25, .istore 4, 2), (27, .iconst 0, 1), (28, .istore 5, 2), (30, .iconst 0, 1), (31, .istore 6, 2)]) (by decide +kernel) (pc' := 33) (L' := #[.val (.ref x0), .val (.ref x1), .val (.ref ap), .val (.ref au), .val (.int (0 : Int32)), .val (.int (0 : Int32)), .val (.int (0 : Int32))]) (S' := []) rfl ?_
  have E0 : Ext h hu := Ext.tr Ep Eu
  have fp : h.size ≤ ap := by rw [zp]; exact Nat.le_refl _
  have fu : h.size ≤ au := by rw [zu]; exact Ep.1
  have gp := Nat.le_trans hO.1 fp
  have gu := Nat.le_trans hO.1 fu
  have lp := Ap.lt
  have npu : ap ≠ au := fun z => absurd lp (by rw [z, zu]; exact Nat.lt_irrefl _)
  have xlt := XA.lt
  have nxp : ap ≠ x0 := fun z => absurd xlt (by rw [← z]; exact Nat.not_lt.mpr fp)
  have nxu : au ≠ x0 := fun z => absurd xlt (by rw [← z]; exact Nat.not_lt.mpr fu)
  have ex : ∀ (i j : Nat) (hT : Heap) (ko : List Int32) (wo : List Int64), i = ak.length → j = bk.length → MI ak bk aw bw i j ko wo → Ext h hT → Arv Z hT ap kp .int (Int32.ofNat (ak.length + bk.length)) (ko.map Value.int) (.int 0) → Arv Z hT au ku .long (Int32.ofNat (ak.length + bk.length)) (wo.map Value.long) (.long 0) → Run Z [] true K (fun v h' => v = none ∧ ∃ (ks : List Int32) (ws : List Int64) (n : Nat), IV Z h' x0 ks ws n ∧ Rep ks ws (B ++ A) ∧ n ≤ 4 ∧ Keep h h' [x0]) [] hT 2 8 33 #[.val (.ref x0), .val (.ref x1), .val (.ref ap), .val (.ref au), .val (.int (Int32.ofNat ko.length)), .val (.int (Int32.ofNat i)), .val (.int (Int32.ofNat j))] [] := by
    intro i j hT ko wo hi hj F E Pk Pw
    have X := XA.ext E
    have Fk := Ak.ext E
    have Fw := Aw.ext E
    have Fc := Ac.ext E
    have l6 := F.2.2.2.2.2
    have l2 := F.2.1
    refine Run.pure hK (seg := [(33, .iload 5, 2), (35, .aload_n 0, 1)]) (by decide +kernel) (pc' := 36) (L' := #[.val (.ref x0), .val (.ref x1), .val (.ref ap), .val (.ref au), .val (.int (Int32.ofNat ko.length)), .val (.int (Int32.ofNat i)), .val (.int (Int32.ofNat j))]) (S' := [(.ref x0), (.int (Int32.ofNat i))]) rfl ?_
    refine Run.getf hK (index := 26) (host := "") (Or.inl (hw _ (List.mem_of_getElem? (i := 21) rfl))) Via.refl (Ac.ext E) (by decide +kernel) ?_
    refine Run.icmp hK (cd := .lt) (o := 12) (by decide +kernel) (by decide) (pc' := 51) rfl (fun q => by replace q := (h_lt _ _).1 q; exact absurd q (by rw [ofN_lt2 (by omega) (by omega)]; omega)) (fun _ => ?_)
    refine Run.pure hK (seg := [(42, .iload 6, 2), (44, .aload_n 1, 1)]) (by decide +kernel) (pc' := 45) (L' := #[.val (.ref x0), .val (.ref x1), .val (.ref ap), .val (.ref au), .val (.int (Int32.ofNat ko.length)), .val (.int (Int32.ofNat i)), .val (.int (Int32.ofNat j))]) (S' := [(.ref x1), (.int (Int32.ofNat j))]) rfl ?_
    refine Run.getf hK (index := 26) (host := "") (Or.inl (hw _ (List.mem_of_getElem? (i := 21) rfl))) Via.refl (Bc.ext E) (by decide +kernel) ?_
    refine Run.icmp hK (cd := .ge) (o := 162) (by decide +kernel) (by decide) (pc' := 210) rfl (fun _ => ?_) (fun q => by replace q := (h_ge _ _).2 q; exact absurd q (by rw [ofN_lt2 (by omega) (by omega)]; omega))
    refine Run.pure hK (seg := [(210, .aload_n 0, 1), (211, .aload_n 2, 1)]) (by decide +kernel) (pc' := 212) (L' := #[.val (.ref x0), .val (.ref x1), .val (.ref ap), .val (.ref au), .val (.int (Int32.ofNat ko.length)), .val (.int (Int32.ofNat i)), .val (.int (Int32.ofNat j))]) (S' := [(.ref ap), (.ref x0)]) rfl ?_
    refine Run.putf hK (index := 20) (host := "") (Or.inl (hw _ (List.mem_of_getElem? (i := 17) rfl))) Via.refl Fk X (Or.inl (hw _ (List.mem_of_getElem? (i := 18) rfl))) (hw _ (List.mem_of_getElem? (i := 2) rfl)) (ty := (.array .int)) (by decide) rfl rfl hx0 (sfE X (by decide) (by decide)) (by decide +kernel) (fun h1 W1 => ?_)
    replace Fk := Fk.same W1
    replace Fw := Fw.other W1 (Or.inr (slot_ne (Or.inl (hw _ (List.mem_of_getElem? (i := 20) rfl))) (Or.inl (hw _ (List.mem_of_getElem? (i := 18) rfl))) (by decide) (by decide : parseFieldDescriptor "[J" = some (.array .long)) (by decide : parseFieldDescriptor "[I" = some (.array .int))))
    replace Fc := Fc.other W1 (Or.inr (slot_ne (Or.inl (hw _ (List.mem_of_getElem? (i := 22) rfl))) (Or.inl (hw _ (List.mem_of_getElem? (i := 18) rfl))) (by decide) (by decide : parseFieldDescriptor "I" = some .int) (by decide : parseFieldDescriptor "[I" = some (.array .int))))
    replace X := X.wr W1
    replace Pk := Pk.other W1 nxp
    replace Pw := Pw.other W1 nxu
    refine Run.pure hK (seg := [(215, .aload_n 0, 1), (216, .aload_n 3, 1)]) (by decide +kernel) (pc' := 217) (L' := #[.val (.ref x0), .val (.ref x1), .val (.ref ap), .val (.ref au), .val (.int (Int32.ofNat ko.length)), .val (.int (Int32.ofNat i)), .val (.int (Int32.ofNat j))]) (S' := [(.ref au), (.ref x0)]) rfl ?_
    refine Run.putf hK (index := 23) (host := "") (Or.inl (hw _ (List.mem_of_getElem? (i := 19) rfl))) Via.refl Fw X (Or.inl (hw _ (List.mem_of_getElem? (i := 20) rfl))) (hw _ (List.mem_of_getElem? (i := 2) rfl)) (ty := (.array .long)) (by decide) rfl rfl hx0 (sfE X (by decide) (by decide)) (by decide +kernel) (fun h2 W2 => ?_)
    replace Fk := Fk.other W2 (Or.inr (slot_ne (Or.inl (hw _ (List.mem_of_getElem? (i := 18) rfl))) (Or.inl (hw _ (List.mem_of_getElem? (i := 20) rfl))) (by decide) (by decide : parseFieldDescriptor "[I" = some (.array .int)) (by decide : parseFieldDescriptor "[J" = some (.array .long))))
    replace Fw := Fw.same W2
    replace Fc := Fc.other W2 (Or.inr (slot_ne (Or.inl (hw _ (List.mem_of_getElem? (i := 22) rfl))) (Or.inl (hw _ (List.mem_of_getElem? (i := 20) rfl))) (by decide) (by decide : parseFieldDescriptor "I" = some .int) (by decide : parseFieldDescriptor "[J" = some (.array .long))))
    replace X := X.wr W2
    replace Pk := Pk.other W2 nxp
    replace Pw := Pw.other W2 nxu
    refine Run.pure hK (seg := [(220, .aload_n 0, 1), (221, .iload 4, 2)]) (by decide +kernel) (pc' := 223) (L' := #[.val (.ref x0), .val (.ref x1), .val (.ref ap), .val (.ref au), .val (.int (Int32.ofNat ko.length)), .val (.int (Int32.ofNat i)), .val (.int (Int32.ofNat j))]) (S' := [(.int (Int32.ofNat ko.length)), (.ref x0)]) rfl ?_
    refine Run.putf hK (index := 26) (host := "") (Or.inl (hw _ (List.mem_of_getElem? (i := 21) rfl))) Via.refl Fc X (Or.inl (hw _ (List.mem_of_getElem? (i := 22) rfl))) (hw _ (List.mem_of_getElem? (i := 2) rfl)) (ty := .int) (by decide) rfl rfl hx0 (sfE X (by decide) (by decide)) (by decide +kernel) (fun h3 W3 => ?_)
    replace Fk := Fk.other W3 (Or.inr (slot_ne (Or.inl (hw _ (List.mem_of_getElem? (i := 18) rfl))) (Or.inl (hw _ (List.mem_of_getElem? (i := 22) rfl))) (by decide) (by decide : parseFieldDescriptor "[I" = some (.array .int)) (by decide : parseFieldDescriptor "I" = some .int)))
    replace Fw := Fw.other W3 (Or.inr (slot_ne (Or.inl (hw _ (List.mem_of_getElem? (i := 20) rfl))) (Or.inl (hw _ (List.mem_of_getElem? (i := 22) rfl))) (by decide) (by decide : parseFieldDescriptor "[J" = some (.array .long)) (by decide : parseFieldDescriptor "I" = some .int)))
    replace Fc := Fc.same W3
    replace X := X.wr W3
    replace Pk := Pk.other W3 nxp
    replace Pw := Pw.other W3 nxu
    exact Run.retv hK (by decide +kernel) (by decide) (by decide) ⟨rfl, ko, wo, ak.length + bk.length, ⟨ap, au, kp, ku, X, Fk, Fw, Fc, Pk, Pw, by omega⟩, F.rep RA RB (by omega) (by omega), by omega, (((((Keep.refl h [x0]).ext E).wr W1 (Or.inl (List.mem_singleton.mpr rfl))).wr W2 (Or.inl (List.mem_singleton.mpr rfl))).wr W3 (Or.inl (List.mem_singleton.mpr rfl)))⟩
  have loop : ∀ (m : Nat) (i j : Nat) (hT : Heap) (ko : List Int32) (wo : List Int64), (ak.length - i) + (bk.length - j) ≤ m → i ≤ ak.length → j ≤ bk.length → MI ak bk aw bw i j ko wo → Ext h hT → Arv Z hT ap kp .int (Int32.ofNat (ak.length + bk.length)) (ko.map Value.int) (.int 0) → Arv Z hT au ku .long (Int32.ofNat (ak.length + bk.length)) (wo.map Value.long) (.long 0) → Run Z [] true K (fun v h' => v = none ∧ ∃ (ks : List Int32) (ws : List Int64) (n : Nat), IV Z h' x0 ks ws n ∧ Rep ks ws (B ++ A) ∧ n ≤ 4 ∧ Keep h h' [x0]) [] hT 2 8 33 #[.val (.ref x0), .val (.ref x1), .val (.ref ap), .val (.ref au), .val (.int (Int32.ofNat ko.length)), .val (.int (Int32.ofNat i)), .val (.int (Int32.ofNat j))] [] := by
    intro m
    induction m with
    | zero => intro i j hT ko wo hm hi hj F E Pk Pw; exact ex i j hT ko wo (by omega) (by omega) F E Pk Pw
    | succ m ih =>
      intro i j hT ko wo hm hi hj F E Pk Pw
      by_cases hlt : i < ak.length ∨ j < bk.length
      case neg => exact ex i j hT ko wo (by omega) (by omega) F E Pk Pw
      have l6 := F.2.2.2.2.2
      have l2 := F.2.1
      have lN : ko.length < ak.length + bk.length := by omega
      clear ex
      have sL : i < ak.length → (j < bk.length → ak.getD i 0 < bk.getD j 0) → Run Z [] true K (fun v h' => v = none ∧ ∃ (ks : List Int32) (ws : List Int64) (n : Nat), IV Z h' x0 ks ws n ∧ Rep ks ws (B ++ A) ∧ n ≤ 4 ∧ Keep h h' [x0]) [] hT 2 8 86 #[.val (.ref x0), .val (.ref x1), .val (.ref ap), .val (.ref au), .val (.int (Int32.ofNat ko.length)), .val (.int (Int32.ofNat i)), .val (.int (Int32.ofNat j))] [] := by
        intro hi' hc
        refine Run.pure hK (seg := [(86, .aload_n 2, 1), (87, .iload 4, 2), (89, .aload_n 0, 1)]) (by decide +kernel) (pc' := 90) (L' := #[.val (.ref x0), .val (.ref x1), .val (.ref ap), .val (.ref au), .val (.int (Int32.ofNat ko.length)), .val (.int (Int32.ofNat i)), .val (.int (Int32.ofNat j))]) (S' := [(.ref x0), (.int (Int32.ofNat ko.length)), (.ref ap)]) rfl ?_
        refine Run.getf hK (index := 20) (host := "") (Or.inl (hw _ (List.mem_of_getElem? (i := 17) rfl))) Via.refl (Ak.ext E) (by decide +kernel) ?_
        refine Run.pure hK (seg := [(93, .iload 5, 2)]) (by decide +kernel) (pc' := 95) (L' := #[.val (.ref x0), .val (.ref x1), .val (.ref ap), .val (.ref au), .val (.int (Int32.ofNat ko.length)), .val (.int (Int32.ofNat i)), .val (.int (Int32.ofNat j))]) (S' := [(.int (Int32.ofNat i)), (.ref pa), (.int (Int32.ofNat ko.length)), (.ref ap)]) rfl ?_
        refine Run.ald hK (i := .iaload) (v := (.int (ak.getD i 0))) (A1.ext E) (Or.inr (Or.inl ⟨rfl, rfl⟩)) ⟨ofN_nn (by omega), (ofN_lt2 (by omega) (by omega)).mpr (by omega)⟩ (by rw [ofN_nat (by omega), getD_mapI]) (by decide +kernel) ?_
        refine Run.ist hK Pk ⟨ofN_nn (by omega), (ofN_lt2 (by omega) (by omega)).mpr (by omega)⟩ gp (by decide +kernel) (fun ha Wa Ba => ?_)
        have Pk2 : Arv Z ha ap kp .int (Int32.ofNat (ak.length + bk.length)) ((ko ++ [ak.getD i 0]).map Value.int) (.int 0) := by
          rw [List.map_append]; rw [ofN_nat (by omega : ko.length ≤ 4000), ofN_nat (by omega : ak.length + bk.length ≤ 4000)] at Ba
          exact Ba.pad (fun t => by have q := snoc_pad (vs := ko.map Value.int) (n := ak.length + bk.length) (.int 0) (.int (ak.getD i 0)) (by rw [List.length_map]; omega) t; rw [List.length_map] at q; exact q)
        have E2 := ext_wr E Wa fp
        have Pw1 := Pw.other Wa npu.symm
        refine Run.pure hK (seg := [(97, .aload_n 3, 1), (98, .iload 4, 2), (100, .aload_n 0, 1)]) (by decide +kernel) (pc' := 101) (L' := #[.val (.ref x0), .val (.ref x1), .val (.ref ap), .val (.ref au), .val (.int (Int32.ofNat ko.length)), .val (.int (Int32.ofNat i)), .val (.int (Int32.ofNat j))]) (S' := [(.ref x0), (.int (Int32.ofNat ko.length)), (.ref au)]) rfl ?_
        refine Run.getf hK (index := 23) (host := "") (Or.inl (hw _ (List.mem_of_getElem? (i := 19) rfl))) Via.refl (Aw.ext E2) (by decide +kernel) ?_
        refine Run.pure hK (seg := [(104, .iload 5, 2), (106, .iinc 5 1, 3)]) (by decide +kernel) (pc' := 109) (L' := #[.val (.ref x0), .val (.ref x1), .val (.ref ap), .val (.ref au), .val (.int (Int32.ofNat ko.length)), .val (.int ((Int32.ofNat i) + (1 : Int32))), .val (.int (Int32.ofNat j))]) (S' := [(.int (Int32.ofNat i)), (.ref pw), (.int (Int32.ofNat ko.length)), (.ref au)]) rfl ?_
        refine Run.ald hK (i := .laload) (v := (.long (aw.getD i 0))) (A2.ext E2) (Or.inr (Or.inr (Or.inr ⟨rfl, rfl⟩))) ⟨ofN_nn (by omega), (ofN_lt2 (by omega) (by omega)).mpr (by omega)⟩ (by rw [ofN_nat (by omega), getD_mapJ]) (by decide +kernel) ?_
        refine Run.lst hK Pw1 ⟨ofN_nn (by omega), (ofN_lt2 (by omega) (by omega)).mpr (by omega)⟩ gu (by decide +kernel) (fun hb Wb Bb => ?_)
        have Pw2 : Arv Z hb au ku .long (Int32.ofNat (ak.length + bk.length)) ((wo ++ [aw.getD i 0]).map Value.long) (.long 0) := by
          rw [List.map_append]; rw [ofN_nat (by omega : ko.length ≤ 4000), ofN_nat (by omega : ak.length + bk.length ≤ 4000)] at Bb
          exact Bb.pad (fun t => by have q := snoc_pad (vs := wo.map Value.long) (n := ak.length + bk.length) (.long 0) (.long (aw.getD i 0)) (by rw [List.length_map]; omega) t; rw [List.length_map, ← l2] at q; exact q)
        have E3 := ext_wr E2 Wb fu
        have Pk3 := Pk2.other Wb npu
        refine Run.pure hK (seg := [(111, .goto 93, 3), (204, .iinc 4 1, 3), (207, .goto (-174), 3)]) (by decide +kernel) (pc' := 33) (L' := #[.val (.ref x0), .val (.ref x1), .val (.ref ap), .val (.ref au), .val (.int ((Int32.ofNat ko.length) + (1 : Int32))), .val (.int ((Int32.ofNat i) + (1 : Int32))), .val (.int (Int32.ofNat j))]) (S' := []) rfl ?_
        rw [show Int32.ofNat i + (1 : Int32) = Int32.ofNat (i + 1) from ofN_add (n := i) (m := 1) (by omega)]
        rw [show Int32.ofNat ko.length + (1 : Int32) = Int32.ofNat (ko ++ [ak.getD i 0]).length from by rw [List.length_append]; exact ofN_add (n := ko.length) (m := 1) (by omega)]
        exact ih (i + 1) j _ _ _ (by omega) (by omega) (by omega) (F.left RA RB.1 hi' hc) E3 Pk3 Pw2
      have sR : j < bk.length → (i < ak.length → bk.getD j 0 < ak.getD i 0) → Run Z [] true K (fun v h' => v = none ∧ ∃ (ks : List Int32) (ws : List Int64) (n : Nat), IV Z h' x0 ks ws n ∧ Rep ks ws (B ++ A) ∧ n ≤ 4 ∧ Keep h h' [x0]) [] hT 2 8 140 #[.val (.ref x0), .val (.ref x1), .val (.ref ap), .val (.ref au), .val (.int (Int32.ofNat ko.length)), .val (.int (Int32.ofNat i)), .val (.int (Int32.ofNat j))] [] := by
        intro hj' hc
        refine Run.pure hK (seg := [(140, .aload_n 2, 1), (141, .iload 4, 2), (143, .aload_n 1, 1)]) (by decide +kernel) (pc' := 144) (L' := #[.val (.ref x0), .val (.ref x1), .val (.ref ap), .val (.ref au), .val (.int (Int32.ofNat ko.length)), .val (.int (Int32.ofNat i)), .val (.int (Int32.ofNat j))]) (S' := [(.ref x1), (.int (Int32.ofNat ko.length)), (.ref ap)]) rfl ?_
        refine Run.getf hK (index := 20) (host := "") (Or.inl (hw _ (List.mem_of_getElem? (i := 17) rfl))) Via.refl (Bk.ext E) (by decide +kernel) ?_
        refine Run.pure hK (seg := [(147, .iload 6, 2)]) (by decide +kernel) (pc' := 149) (L' := #[.val (.ref x0), .val (.ref x1), .val (.ref ap), .val (.ref au), .val (.int (Int32.ofNat ko.length)), .val (.int (Int32.ofNat i)), .val (.int (Int32.ofNat j))]) (S' := [(.int (Int32.ofNat j)), (.ref qa), (.int (Int32.ofNat ko.length)), (.ref ap)]) rfl ?_
        refine Run.ald hK (i := .iaload) (v := (.int (bk.getD j 0))) (B1.ext E) (Or.inr (Or.inl ⟨rfl, rfl⟩)) ⟨ofN_nn (by omega), (ofN_lt2 (by omega) (by omega)).mpr (by omega)⟩ (by rw [ofN_nat (by omega), getD_mapI]) (by decide +kernel) ?_
        refine Run.ist hK Pk ⟨ofN_nn (by omega), (ofN_lt2 (by omega) (by omega)).mpr (by omega)⟩ gp (by decide +kernel) (fun ha Wa Ba => ?_)
        have Pk2 : Arv Z ha ap kp .int (Int32.ofNat (ak.length + bk.length)) ((ko ++ [bk.getD j 0]).map Value.int) (.int 0) := by
          rw [List.map_append]; rw [ofN_nat (by omega : ko.length ≤ 4000), ofN_nat (by omega : ak.length + bk.length ≤ 4000)] at Ba
          exact Ba.pad (fun t => by have q := snoc_pad (vs := ko.map Value.int) (n := ak.length + bk.length) (.int 0) (.int (bk.getD j 0)) (by rw [List.length_map]; omega) t; rw [List.length_map] at q; exact q)
        have E2 := ext_wr E Wa fp
        have Pw1 := Pw.other Wa npu.symm
        refine Run.pure hK (seg := [(151, .aload_n 3, 1), (152, .iload 4, 2), (154, .aload_n 1, 1)]) (by decide +kernel) (pc' := 155) (L' := #[.val (.ref x0), .val (.ref x1), .val (.ref ap), .val (.ref au), .val (.int (Int32.ofNat ko.length)), .val (.int (Int32.ofNat i)), .val (.int (Int32.ofNat j))]) (S' := [(.ref x1), (.int (Int32.ofNat ko.length)), (.ref au)]) rfl ?_
        refine Run.getf hK (index := 23) (host := "") (Or.inl (hw _ (List.mem_of_getElem? (i := 19) rfl))) Via.refl (Bw.ext E2) (by decide +kernel) ?_
        refine Run.pure hK (seg := [(158, .iload 6, 2), (160, .iinc 6 1, 3)]) (by decide +kernel) (pc' := 163) (L' := #[.val (.ref x0), .val (.ref x1), .val (.ref ap), .val (.ref au), .val (.int (Int32.ofNat ko.length)), .val (.int (Int32.ofNat i)), .val (.int ((Int32.ofNat j) + (1 : Int32)))]) (S' := [(.int (Int32.ofNat j)), (.ref qw), (.int (Int32.ofNat ko.length)), (.ref au)]) rfl ?_
        refine Run.ald hK (i := .laload) (v := (.long (bw.getD j 0))) (B2.ext E2) (Or.inr (Or.inr (Or.inr ⟨rfl, rfl⟩))) ⟨ofN_nn (by omega), (ofN_lt2 (by omega) (by omega)).mpr (by omega)⟩ (by rw [ofN_nat (by omega), getD_mapJ]) (by decide +kernel) ?_
        refine Run.lst hK Pw1 ⟨ofN_nn (by omega), (ofN_lt2 (by omega) (by omega)).mpr (by omega)⟩ gu (by decide +kernel) (fun hb Wb Bb => ?_)
        have Pw2 : Arv Z hb au ku .long (Int32.ofNat (ak.length + bk.length)) ((wo ++ [bw.getD j 0]).map Value.long) (.long 0) := by
          rw [List.map_append]; rw [ofN_nat (by omega : ko.length ≤ 4000), ofN_nat (by omega : ak.length + bk.length ≤ 4000)] at Bb
          exact Bb.pad (fun t => by have q := snoc_pad (vs := wo.map Value.long) (n := ak.length + bk.length) (.long 0) (.long (bw.getD j 0)) (by rw [List.length_map]; omega) t; rw [List.length_map, ← l2] at q; exact q)
        have E3 := ext_wr E2 Wb fu
        have Pk3 := Pk2.other Wb npu
        refine Run.pure hK (seg := [(165, .goto 39, 3), (204, .iinc 4 1, 3), (207, .goto (-174), 3)]) (by decide +kernel) (pc' := 33) (L' := #[.val (.ref x0), .val (.ref x1), .val (.ref ap), .val (.ref au), .val (.int ((Int32.ofNat ko.length) + (1 : Int32))), .val (.int (Int32.ofNat i)), .val (.int ((Int32.ofNat j) + (1 : Int32)))]) (S' := []) rfl ?_
        rw [show Int32.ofNat j + (1 : Int32) = Int32.ofNat (j + 1) from ofN_add (n := j) (m := 1) (by omega)]
        rw [show Int32.ofNat ko.length + (1 : Int32) = Int32.ofNat (ko ++ [bk.getD j 0]).length from by rw [List.length_append]; exact ofN_add (n := ko.length) (m := 1) (by omega)]
        exact ih i (j + 1) _ _ _ (by omega) (by omega) (by omega) (F.right RB RA.1 hj' hc) E3 Pk3 Pw2
      have sB : i < ak.length → j < bk.length → ak.getD i 0 = bk.getD j 0 → Run Z [] true K (fun v h' => v = none ∧ ∃ (ks : List Int32) (ws : List Int64) (n : Nat), IV Z h' x0 ks ws n ∧ Rep ks ws (B ++ A) ∧ n ≤ 4 ∧ Keep h h' [x0]) [] hT 2 8 168 #[.val (.ref x0), .val (.ref x1), .val (.ref ap), .val (.ref au), .val (.int (Int32.ofNat ko.length)), .val (.int (Int32.ofNat i)), .val (.int (Int32.ofNat j))] [] := by
        intro hi' hj' hc
        refine Run.pure hK (seg := [(168, .aload_n 2, 1), (169, .iload 4, 2), (171, .aload_n 0, 1)]) (by decide +kernel) (pc' := 172) (L' := #[.val (.ref x0), .val (.ref x1), .val (.ref ap), .val (.ref au), .val (.int (Int32.ofNat ko.length)), .val (.int (Int32.ofNat i)), .val (.int (Int32.ofNat j))]) (S' := [(.ref x0), (.int (Int32.ofNat ko.length)), (.ref ap)]) rfl ?_
        refine Run.getf hK (index := 20) (host := "") (Or.inl (hw _ (List.mem_of_getElem? (i := 17) rfl))) Via.refl (Ak.ext E) (by decide +kernel) ?_
        refine Run.pure hK (seg := [(175, .iload 5, 2)]) (by decide +kernel) (pc' := 177) (L' := #[.val (.ref x0), .val (.ref x1), .val (.ref ap), .val (.ref au), .val (.int (Int32.ofNat ko.length)), .val (.int (Int32.ofNat i)), .val (.int (Int32.ofNat j))]) (S' := [(.int (Int32.ofNat i)), (.ref pa), (.int (Int32.ofNat ko.length)), (.ref ap)]) rfl ?_
        refine Run.ald hK (i := .iaload) (v := (.int (ak.getD i 0))) (A1.ext E) (Or.inr (Or.inl ⟨rfl, rfl⟩)) ⟨ofN_nn (by omega), (ofN_lt2 (by omega) (by omega)).mpr (by omega)⟩ (by rw [ofN_nat (by omega), getD_mapI]) (by decide +kernel) ?_
        refine Run.ist hK Pk ⟨ofN_nn (by omega), (ofN_lt2 (by omega) (by omega)).mpr (by omega)⟩ gp (by decide +kernel) (fun ha Wa Ba => ?_)
        have Pk2 : Arv Z ha ap kp .int (Int32.ofNat (ak.length + bk.length)) ((ko ++ [ak.getD i 0]).map Value.int) (.int 0) := by
          rw [List.map_append]; rw [ofN_nat (by omega : ko.length ≤ 4000), ofN_nat (by omega : ak.length + bk.length ≤ 4000)] at Ba
          exact Ba.pad (fun t => by have q := snoc_pad (vs := ko.map Value.int) (n := ak.length + bk.length) (.int 0) (.int (ak.getD i 0)) (by rw [List.length_map]; omega) t; rw [List.length_map] at q; exact q)
        have E2 := ext_wr E Wa fp
        have Pw1 := Pw.other Wa npu.symm
        refine Run.pure hK (seg := [(179, .aload_n 3, 1), (180, .iload 4, 2), (182, .aload_n 0, 1)]) (by decide +kernel) (pc' := 183) (L' := #[.val (.ref x0), .val (.ref x1), .val (.ref ap), .val (.ref au), .val (.int (Int32.ofNat ko.length)), .val (.int (Int32.ofNat i)), .val (.int (Int32.ofNat j))]) (S' := [(.ref x0), (.int (Int32.ofNat ko.length)), (.ref au)]) rfl ?_
        refine Run.getf hK (index := 23) (host := "") (Or.inl (hw _ (List.mem_of_getElem? (i := 19) rfl))) Via.refl (Aw.ext E2) (by decide +kernel) ?_
        refine Run.pure hK (seg := [(186, .iload 5, 2), (188, .iinc 5 1, 3)]) (by decide +kernel) (pc' := 191) (L' := #[.val (.ref x0), .val (.ref x1), .val (.ref ap), .val (.ref au), .val (.int (Int32.ofNat ko.length)), .val (.int ((Int32.ofNat i) + (1 : Int32))), .val (.int (Int32.ofNat j))]) (S' := [(.int (Int32.ofNat i)), (.ref pw), (.int (Int32.ofNat ko.length)), (.ref au)]) rfl ?_
        refine Run.ald hK (i := .laload) (v := (.long (aw.getD i 0))) (A2.ext E2) (Or.inr (Or.inr (Or.inr ⟨rfl, rfl⟩))) ⟨ofN_nn (by omega), (ofN_lt2 (by omega) (by omega)).mpr (by omega)⟩ (by rw [ofN_nat (by omega), getD_mapJ]) (by decide +kernel) ?_
        refine Run.pure hK (seg := [(192, .aload_n 1, 1)]) (by decide +kernel) (pc' := 193) (L' := #[.val (.ref x0), .val (.ref x1), .val (.ref ap), .val (.ref au), .val (.int (Int32.ofNat ko.length)), .val (.int ((Int32.ofNat i) + (1 : Int32))), .val (.int (Int32.ofNat j))]) (S' := [(.ref x1), (.long (aw.getD i 0)), (.int (Int32.ofNat ko.length)), (.ref au)]) rfl ?_
        refine Run.getf hK (index := 23) (host := "") (Or.inl (hw _ (List.mem_of_getElem? (i := 19) rfl))) Via.refl (Bw.ext E2) (by decide +kernel) ?_
        refine Run.pure hK (seg := [(196, .iload 6, 2), (198, .iinc 6 1, 3)]) (by decide +kernel) (pc' := 201) (L' := #[.val (.ref x0), .val (.ref x1), .val (.ref ap), .val (.ref au), .val (.int (Int32.ofNat ko.length)), .val (.int ((Int32.ofNat i) + (1 : Int32))), .val (.int ((Int32.ofNat j) + (1 : Int32)))]) (S' := [(.int (Int32.ofNat j)), (.ref qw), (.long (aw.getD i 0)), (.int (Int32.ofNat ko.length)), (.ref au)]) rfl ?_
        refine Run.ald hK (i := .laload) (v := (.long (bw.getD j 0))) (B2.ext E2) (Or.inr (Or.inr (Or.inr ⟨rfl, rfl⟩))) ⟨ofN_nn (by omega), (ofN_lt2 (by omega) (by omega)).mpr (by omega)⟩ (by rw [ofN_nat (by omega), getD_mapJ]) (by decide +kernel) ?_
        refine Run.pure hK (seg := [(202, .lor, 1)]) (by decide +kernel) (pc' := 203) (L' := #[.val (.ref x0), .val (.ref x1), .val (.ref ap), .val (.ref au), .val (.int (Int32.ofNat ko.length)), .val (.int ((Int32.ofNat i) + (1 : Int32))), .val (.int ((Int32.ofNat j) + (1 : Int32)))]) (S' := [(.long ((aw.getD i 0) ||| (bw.getD j 0))), (.int (Int32.ofNat ko.length)), (.ref au)]) rfl ?_
        refine Run.lst hK Pw1 ⟨ofN_nn (by omega), (ofN_lt2 (by omega) (by omega)).mpr (by omega)⟩ gu (by decide +kernel) (fun hb Wb Bb => ?_)
        have Pw2 : Arv Z hb au ku .long (Int32.ofNat (ak.length + bk.length)) ((wo ++ [aw.getD i 0 ||| bw.getD j 0]).map Value.long) (.long 0) := by
          rw [List.map_append]; rw [ofN_nat (by omega : ko.length ≤ 4000), ofN_nat (by omega : ak.length + bk.length ≤ 4000)] at Bb
          exact Bb.pad (fun t => by have q := snoc_pad (vs := wo.map Value.long) (n := ak.length + bk.length) (.long 0) (.long (aw.getD i 0 ||| bw.getD j 0)) (by rw [List.length_map]; omega) t; rw [List.length_map, ← l2] at q; exact q)
        have E3 := ext_wr E2 Wb fu
        have Pk3 := Pk2.other Wb npu
        refine Run.pure hK (seg := [(204, .iinc 4 1, 3), (207, .goto (-174), 3)]) (by decide +kernel) (pc' := 33) (L' := #[.val (.ref x0), .val (.ref x1), .val (.ref ap), .val (.ref au), .val (.int ((Int32.ofNat ko.length) + (1 : Int32))), .val (.int ((Int32.ofNat i) + (1 : Int32))), .val (.int ((Int32.ofNat j) + (1 : Int32)))]) (S' := []) rfl ?_
        rw [show Int32.ofNat i + (1 : Int32) = Int32.ofNat (i + 1) from ofN_add (n := i) (m := 1) (by omega)]
        rw [show Int32.ofNat j + (1 : Int32) = Int32.ofNat (j + 1) from ofN_add (n := j) (m := 1) (by omega)]
        rw [show Int32.ofNat ko.length + (1 : Int32) = Int32.ofNat (ko ++ [ak.getD i 0]).length from by rw [List.length_append]; exact ofN_add (n := ko.length) (m := 1) (by omega)]
        exact ih (i + 1) (j + 1) _ _ _ (by omega) (by omega) (by omega) (F.both RA RB hi' hj' hc) E3 Pk3 Pw2
      have s114 : j < bk.length → (i < ak.length → ¬ ak.getD i 0 < bk.getD j 0) → Run Z [] true K (fun v h' => v = none ∧ ∃ (ks : List Int32) (ws : List Int64) (n : Nat), IV Z h' x0 ks ws n ∧ Rep ks ws (B ++ A) ∧ n ≤ 4 ∧ Keep h h' [x0]) [] hT 2 8 114 #[.val (.ref x0), .val (.ref x1), .val (.ref ap), .val (.ref au), .val (.int (Int32.ofNat ko.length)), .val (.int (Int32.ofNat i)), .val (.int (Int32.ofNat j))] [] := by
        intro hj' hc
        refine Run.pure hK (seg := [(114, .iload 5, 2), (116, .aload_n 0, 1)]) (by decide +kernel) (pc' := 117) (L' := #[.val (.ref x0), .val (.ref x1), .val (.ref ap), .val (.ref au), .val (.int (Int32.ofNat ko.length)), .val (.int (Int32.ofNat i)), .val (.int (Int32.ofNat j))]) (S' := [(.ref x0), (.int (Int32.ofNat i))]) rfl ?_
        refine Run.getf hK (index := 26) (host := "") (Or.inl (hw _ (List.mem_of_getElem? (i := 21) rfl))) Via.refl (Ac.ext E) (by decide +kernel) ?_
        refine Run.icmp hK (cd := .eq) (o := 20) (by decide +kernel) (by decide) (pc' := 140) rfl (fun q1 => ?_) (fun q1 => ?_)
        · replace q1 := (h_eq _ _).1 q1
          exact sR hj' (fun z => absurd (congrArg Int32.toInt q1) (by rw [ofN (by omega), ofN (by omega)]; omega))
        · replace q1 := (h_eq _ _).2 q1
          have hi' : i < ak.length := by rcases Nat.lt_or_ge i ak.length with r | r; exact r; exact absurd (by rw [show i = ak.length by omega]) q1
          refine Run.pure hK (seg := [(123, .aload_n 1, 1)]) (by decide +kernel) (pc' := 124) (L' := #[.val (.ref x0), .val (.ref x1), .val (.ref ap), .val (.ref au), .val (.int (Int32.ofNat ko.length)), .val (.int (Int32.ofNat i)), .val (.int (Int32.ofNat j))]) (S' := [(.ref x1)]) rfl ?_
          refine Run.getf hK (index := 20) (host := "") (Or.inl (hw _ (List.mem_of_getElem? (i := 17) rfl))) Via.refl (Bk.ext E) (by decide +kernel) ?_
          refine Run.pure hK (seg := [(127, .iload 6, 2)]) (by decide +kernel) (pc' := 129) (L' := #[.val (.ref x0), .val (.ref x1), .val (.ref ap), .val (.ref au), .val (.int (Int32.ofNat ko.length)), .val (.int (Int32.ofNat i)), .val (.int (Int32.ofNat j))]) (S' := [(.int (Int32.ofNat j)), (.ref qa)]) rfl ?_
          refine Run.ald hK (i := .iaload) (v := (.int (bk.getD j 0))) (B1.ext E) (Or.inr (Or.inl ⟨rfl, rfl⟩)) ⟨ofN_nn (by omega), (ofN_lt2 (by omega) (by omega)).mpr (by omega)⟩ (by rw [ofN_nat (by omega), getD_mapI]) (by decide +kernel) ?_
          refine Run.pure hK (seg := [(130, .aload_n 0, 1)]) (by decide +kernel) (pc' := 131) (L' := #[.val (.ref x0), .val (.ref x1), .val (.ref ap), .val (.ref au), .val (.int (Int32.ofNat ko.length)), .val (.int (Int32.ofNat i)), .val (.int (Int32.ofNat j))]) (S' := [(.ref x0), (.int (bk.getD j 0))]) rfl ?_
          refine Run.getf hK (index := 20) (host := "") (Or.inl (hw _ (List.mem_of_getElem? (i := 17) rfl))) Via.refl (Ak.ext E) (by decide +kernel) ?_
          refine Run.pure hK (seg := [(134, .iload 5, 2)]) (by decide +kernel) (pc' := 136) (L' := #[.val (.ref x0), .val (.ref x1), .val (.ref ap), .val (.ref au), .val (.int (Int32.ofNat ko.length)), .val (.int (Int32.ofNat i)), .val (.int (Int32.ofNat j))]) (S' := [(.int (Int32.ofNat i)), (.ref pa), (.int (bk.getD j 0))]) rfl ?_
          refine Run.ald hK (i := .iaload) (v := (.int (ak.getD i 0))) (A1.ext E) (Or.inr (Or.inl ⟨rfl, rfl⟩)) ⟨ofN_nn (by omega), (ofN_lt2 (by omega) (by omega)).mpr (by omega)⟩ (by rw [ofN_nat (by omega), getD_mapI]) (by decide +kernel) ?_
          refine Run.icmp hK (cd := .ge) (o := 31) (by decide +kernel) (by decide) (pc' := 168) rfl (fun q2 => ?_) (fun q2 => ?_)
          · replace q2 := (h_ge _ _).1 q2
            exact sB hi' hj' (i_eq (hc hi') q2)
          · replace q2 := (h_ge _ _).2 q2
            exact sR hj' (fun _ => q2)
      have s51 : Run Z [] true K (fun v h' => v = none ∧ ∃ (ks : List Int32) (ws : List Int64) (n : Nat), IV Z h' x0 ks ws n ∧ Rep ks ws (B ++ A) ∧ n ≤ 4 ∧ Keep h h' [x0]) [] hT 2 8 51 #[.val (.ref x0), .val (.ref x1), .val (.ref ap), .val (.ref au), .val (.int (Int32.ofNat ko.length)), .val (.int (Int32.ofNat i)), .val (.int (Int32.ofNat j))] [] := by
        refine Run.pure hK (seg := [(51, .iload 6, 2), (53, .aload_n 1, 1)]) (by decide +kernel) (pc' := 54) (L' := #[.val (.ref x0), .val (.ref x1), .val (.ref ap), .val (.ref au), .val (.int (Int32.ofNat ko.length)), .val (.int (Int32.ofNat i)), .val (.int (Int32.ofNat j))]) (S' := [(.ref x1), (.int (Int32.ofNat j))]) rfl ?_
        refine Run.getf hK (index := 26) (host := "") (Or.inl (hw _ (List.mem_of_getElem? (i := 21) rfl))) Via.refl (Bc.ext E) (by decide +kernel) ?_
        refine Run.icmp hK (cd := .eq) (o := 29) (by decide +kernel) (by decide) (pc' := 86) rfl (fun q1 => ?_) (fun q1 => ?_)
        · replace q1 := (h_eq _ _).1 q1
          have ej : j = bk.length := by have z := congrArg Int32.toInt q1; rw [ofN (by omega), ofN (by omega)] at z; omega
          exact sL (by omega) (fun z => by omega)
        · replace q1 := (h_eq _ _).2 q1
          have hj' : j < bk.length := by rcases Nat.lt_or_ge j bk.length with r | r; exact r; exact absurd (by rw [show j = bk.length by omega]) q1
          refine Run.pure hK (seg := [(60, .iload 5, 2), (62, .aload_n 0, 1)]) (by decide +kernel) (pc' := 63) (L' := #[.val (.ref x0), .val (.ref x1), .val (.ref ap), .val (.ref au), .val (.int (Int32.ofNat ko.length)), .val (.int (Int32.ofNat i)), .val (.int (Int32.ofNat j))]) (S' := [(.ref x0), (.int (Int32.ofNat i))]) rfl ?_
          refine Run.getf hK (index := 26) (host := "") (Or.inl (hw _ (List.mem_of_getElem? (i := 21) rfl))) Via.refl (Ac.ext E) (by decide +kernel) ?_
          refine Run.icmp hK (cd := .ge) (o := 48) (by decide +kernel) (by decide) (pc' := 114) rfl (fun q2 => ?_) (fun q2 => ?_)
          · replace q2 := (h_ge _ _).1 q2
            exact s114 hj' (fun z => absurd ((ofN_lt2 (by omega) (by omega)).mpr z) q2)
          · replace q2 := (h_ge _ _).2 q2
            replace q2 : i < ak.length := (ofN_lt2 (by omega) (by omega)).mp q2
            refine Run.pure hK (seg := [(69, .aload_n 0, 1)]) (by decide +kernel) (pc' := 70) (L' := #[.val (.ref x0), .val (.ref x1), .val (.ref ap), .val (.ref au), .val (.int (Int32.ofNat ko.length)), .val (.int (Int32.ofNat i)), .val (.int (Int32.ofNat j))]) (S' := [(.ref x0)]) rfl ?_
            refine Run.getf hK (index := 20) (host := "") (Or.inl (hw _ (List.mem_of_getElem? (i := 17) rfl))) Via.refl (Ak.ext E) (by decide +kernel) ?_
            refine Run.pure hK (seg := [(73, .iload 5, 2)]) (by decide +kernel) (pc' := 75) (L' := #[.val (.ref x0), .val (.ref x1), .val (.ref ap), .val (.ref au), .val (.int (Int32.ofNat ko.length)), .val (.int (Int32.ofNat i)), .val (.int (Int32.ofNat j))]) (S' := [(.int (Int32.ofNat i)), (.ref pa)]) rfl ?_
            refine Run.ald hK (i := .iaload) (v := (.int (ak.getD i 0))) (A1.ext E) (Or.inr (Or.inl ⟨rfl, rfl⟩)) ⟨ofN_nn (by omega), (ofN_lt2 (by omega) (by omega)).mpr (by omega)⟩ (by rw [ofN_nat (by omega), getD_mapI]) (by decide +kernel) ?_
            refine Run.pure hK (seg := [(76, .aload_n 1, 1)]) (by decide +kernel) (pc' := 77) (L' := #[.val (.ref x0), .val (.ref x1), .val (.ref ap), .val (.ref au), .val (.int (Int32.ofNat ko.length)), .val (.int (Int32.ofNat i)), .val (.int (Int32.ofNat j))]) (S' := [(.ref x1), (.int (ak.getD i 0))]) rfl ?_
            refine Run.getf hK (index := 20) (host := "") (Or.inl (hw _ (List.mem_of_getElem? (i := 17) rfl))) Via.refl (Bk.ext E) (by decide +kernel) ?_
            refine Run.pure hK (seg := [(80, .iload 6, 2)]) (by decide +kernel) (pc' := 82) (L' := #[.val (.ref x0), .val (.ref x1), .val (.ref ap), .val (.ref au), .val (.int (Int32.ofNat ko.length)), .val (.int (Int32.ofNat i)), .val (.int (Int32.ofNat j))]) (S' := [(.int (Int32.ofNat j)), (.ref qa), (.int (ak.getD i 0))]) rfl ?_
            refine Run.ald hK (i := .iaload) (v := (.int (bk.getD j 0))) (B1.ext E) (Or.inr (Or.inl ⟨rfl, rfl⟩)) ⟨ofN_nn (by omega), (ofN_lt2 (by omega) (by omega)).mpr (by omega)⟩ (by rw [ofN_nat (by omega), getD_mapI]) (by decide +kernel) ?_
            refine Run.icmp hK (cd := .ge) (o := 31) (by decide +kernel) (by decide) (pc' := 114) rfl (fun q3 => ?_) (fun q3 => ?_)
            · replace q3 := (h_ge _ _).1 q3
              exact s114 hj' (fun _ => q3)
            · replace q3 := (h_ge _ _).2 q3
              exact sL q2 (fun _ => q3)
      refine Run.pure hK (seg := [(33, .iload 5, 2), (35, .aload_n 0, 1)]) (by decide +kernel) (pc' := 36) (L' := #[.val (.ref x0), .val (.ref x1), .val (.ref ap), .val (.ref au), .val (.int (Int32.ofNat ko.length)), .val (.int (Int32.ofNat i)), .val (.int (Int32.ofNat j))]) (S' := [(.ref x0), (.int (Int32.ofNat i))]) rfl ?_
      refine Run.getf hK (index := 26) (host := "") (Or.inl (hw _ (List.mem_of_getElem? (i := 21) rfl))) Via.refl (Ac.ext E) (by decide +kernel) ?_
      refine Run.icmp hK (cd := .lt) (o := 12) (by decide +kernel) (by decide) (pc' := 51) rfl (fun q1 => ?_) (fun q1 => ?_)
      · replace q1 := (h_lt _ _).1 q1
        exact s51
      · replace q1 := (h_lt _ _).2 q1
        have hj' : j < bk.length := by rcases hlt with r | r; exact absurd ((ofN_lt2 (by omega) (by omega)).mpr r) q1; exact r
        refine Run.pure hK (seg := [(42, .iload 6, 2), (44, .aload_n 1, 1)]) (by decide +kernel) (pc' := 45) (L' := #[.val (.ref x0), .val (.ref x1), .val (.ref ap), .val (.ref au), .val (.int (Int32.ofNat ko.length)), .val (.int (Int32.ofNat i)), .val (.int (Int32.ofNat j))]) (S' := [(.ref x1), (.int (Int32.ofNat j))]) rfl ?_
        refine Run.getf hK (index := 26) (host := "") (Or.inl (hw _ (List.mem_of_getElem? (i := 21) rfl))) Via.refl (Bc.ext E) (by decide +kernel) ?_
        refine Run.icmp hK (cd := .ge) (o := 162) (by decide +kernel) (by decide) (pc' := 210) rfl (fun q => by replace q := (h_ge _ _).1 q; exact absurd ((ofN_lt2 (by omega) (by omega)).mpr hj') q) (fun _ => ?_)
        exact s51
  refine Run.less (W' := []) ?_ (fun _ q => nomatch q)
  exact loop _ 0 0 hu [] [] (Nat.le_refl _) (by omega) (by omega) MI.nil E0 (Ap.ext Eu) Au
theorem mem_M1_0 {g1 x1 x2 : Int32} (r : ¬ g1 = 0) (r2 : x2 = x1) : x2 ∈ (Mf g1 x1 []) := mem_Mf.mpr (Or.inl ⟨r, r2⟩)
theorem mem_M2_0 {g1 g2 x1 x2 x3 : Int32} (r : ¬ g1 = 0) (r2 : x3 = x1) : x3 ∈ (Mf g2 x2 (Mf g1 x1 [])) := mem_Mf.mpr (Or.inr (mem_Mf.mpr (Or.inl ⟨r, r2⟩)))
theorem mem_M2_1 {g1 g2 x1 x2 x3 : Int32} (r : ¬ g2 = 0) (r2 : x3 = x2) : x3 ∈ (Mf g2 x2 (Mf g1 x1 [])) := mem_Mf.mpr (Or.inl ⟨r, r2⟩)
theorem mem_M3_0 {g1 g2 g3 x1 x2 x3 x4 : Int32} (r : ¬ g1 = 0) (r2 : x4 = x1) : x4 ∈ (Mf g3 x3 (Mf g2 x2 (Mf g1 x1 []))) := mem_Mf.mpr (Or.inr (mem_Mf.mpr (Or.inr (mem_Mf.mpr (Or.inl ⟨r, r2⟩)))))
theorem mem_M3_1 {g1 g2 g3 x1 x2 x3 x4 : Int32} (r : ¬ g2 = 0) (r2 : x4 = x2) : x4 ∈ (Mf g3 x3 (Mf g2 x2 (Mf g1 x1 []))) := mem_Mf.mpr (Or.inr (mem_Mf.mpr (Or.inl ⟨r, r2⟩)))
theorem mem_M3_2 {g1 g2 g3 x1 x2 x3 x4 : Int32} (r : ¬ g3 = 0) (r2 : x4 = x3) : x4 ∈ (Mf g3 x3 (Mf g2 x2 (Mf g1 x1 []))) := mem_Mf.mpr (Or.inl ⟨r, r2⟩)
set_option maxRecDepth 65536 in
set_option maxHeartbeats 40000000 in
theorem c_dd {l : Launch} {Z : State} {a0 : Array Value} (G : Env1 Z a0) (g1 x1 g2 x2 g3 x3 g4 x4 : Int32) (h : Heap) : Ctr Z [] true l [] (⟨"com/example/liveness/liveness/IntSetAddAllPinLaw", "distinct", "(ZIZIZIZI)I"⟩ : MethodName) method_2_code 9 (some .int) ({ frames := 0, cells := 0, slots := 0, locals := 0 } : Room) #[(.int g1), (.int x1), (.int g2), (.int x2), (.int g3), (.int x3), (.int g4), (.int x4)] h [] (fun v h' => h' = h ∧ v = some (.int (Int32.ofNat (dd (Mf g4 x4 (Mf g3 x3 (Mf g2 x2 (Mf g1 x1 [])))))))) := by
  obtain ⟨hw, N1, N2, nk1, nk2, NS1, NA1, NS2, NA2⟩ := id G; have hEL := (EW.nil : EW Z a0 [])
  refine Ctr.of_run (a0 := a0) (L0 := #[.val (.int g1), .val (.int x1), .val (.int g2), .val (.int x2), .val (.int g3), .val (.int x3), .val (.int g4), .val (.int x4), .unset]) (plainFor_of_name pn_law) hEL (by first | (simp [argsToLocals, Value.category, maxLocals]; done) | rfl) (fun K hK => ?_)
  obtain ⟨D4, e_D4⟩ : ∃ z : Nat, z = dd (Mf g4 x4 (Mf g3 x3 (Mf g2 x2 (Mf g1 x1 [])))) := ⟨_, rfl⟩
  rw [← e_D4]
  refine Run.pure hK (seg := [(0, .iconst 0, 1), (1, .istore 8, 2)]) (by decide +kernel) (pc' := 3) (L' := #[.val (.int g1), .val (.int x1), .val (.int g2), .val (.int x2), .val (.int g3), .val (.int x3), .val (.int g4), .val (.int x4), .val (.int (0 : Int32))]) (S' := []) rfl ?_
  have j4 : Run Z [] true K (fun v h' => h' = h ∧ v = some (.int (Int32.ofNat D4))) [] h 0 0 94 #[.val (.int g1), .val (.int x1), .val (.int g2), .val (.int x2), .val (.int g3), .val (.int x3), .val (.int g4), .val (.int x4), .val (.int (Int32.ofNat (dd (Mf g4 x4 (Mf g3 x3 (Mf g2 x2 (Mf g1 x1 [])))))))] [] := by
    refine Run.pure hK (seg := [(94, .iload 8, 2)]) (by decide +kernel) (pc' := 96) (L' := #[.val (.int g1), .val (.int x1), .val (.int g2), .val (.int x2), .val (.int g3), .val (.int x3), .val (.int g4), .val (.int x4), .val (.int (Int32.ofNat (dd (Mf g4 x4 (Mf g3 x3 (Mf g2 x2 (Mf g1 x1 [])))))))]) (S' := [(.int (Int32.ofNat (dd (Mf g4 x4 (Mf g3 x3 (Mf g2 x2 (Mf g1 x1 [])))))))]) rfl ?_
    exact Run.retw hK (i := .ireturn) rfl (Or.inl ⟨rfl, Or.inl rfl, _, rfl⟩) (by decide +kernel) (by decide) (by decide) ⟨rfl, by rw [e_D4]⟩
  have j3 : Run Z [] true K (fun v h' => h' = h ∧ v = some (.int (Int32.ofNat D4))) [] h 0 0 54 #[.val (.int g1), .val (.int x1), .val (.int g2), .val (.int x2), .val (.int g3), .val (.int x3), .val (.int g4), .val (.int x4), .val (.int (Int32.ofNat (dd (Mf g3 x3 (Mf g2 x2 (Mf g1 x1 []))))))] [] := by
    refine Run.pure hK (seg := [(54, .iload 6, 2)]) (by decide +kernel) (pc' := 56) (L' := #[.val (.int g1), .val (.int x1), .val (.int g2), .val (.int x2), .val (.int g3), .val (.int x3), .val (.int g4), .val (.int x4), .val (.int (Int32.ofNat (dd (Mf g3 x3 (Mf g2 x2 (Mf g1 x1 []))))))]) (S' := [(.int g4)]) rfl ?_
    refine Run.ifz hK (cd := .eq) (o := 38) (by decide +kernel) (by decide) (pc' := 94) rfl (fun qg => ?_) (fun qg => ?_)
    · replace qg := (h_eq _ _).1 qg
      have z := j4
      rw [Mf0 qg] at z
      exact z
    · replace qg := (h_eq _ _).2 qg
      refine Run.pure hK (seg := [(59, .iload_n 0, 1)]) (by decide +kernel) (pc' := 60) (L' := #[.val (.int g1), .val (.int x1), .val (.int g2), .val (.int x2), .val (.int g3), .val (.int x3), .val (.int g4), .val (.int x4), .val (.int (Int32.ofNat (dd (Mf g3 x3 (Mf g2 x2 (Mf g1 x1 []))))))]) (S' := [(.int g1)]) rfl ?_
      suffices s0 : ¬ (¬ g1 = 0 ∧ x4 = x1) → Run Z [] true K (fun v h' => h' = h ∧ v = some (.int (Int32.ofNat D4))) [] h 0 0 69 #[.val (.int g1), .val (.int x1), .val (.int g2), .val (.int x2), .val (.int g3), .val (.int x3), .val (.int g4), .val (.int x4), .val (.int (Int32.ofNat (dd (Mf g3 x3 (Mf g2 x2 (Mf g1 x1 []))))))] [] by
        refine Run.ifz hK (cd := .eq) (o := 9) (by decide +kernel) (by decide) (pc' := 69) rfl (fun r => ?_) (fun r => ?_)
        · replace r := (h_eq _ _).1 r
          exact s0 (fun z => z.1 r)
        · replace r := (h_eq _ _).2 r
          refine Run.pure hK (seg := [(63, .iload 7, 2), (65, .iload_n 1, 1)]) (by decide +kernel) (pc' := 66) (L' := #[.val (.int g1), .val (.int x1), .val (.int g2), .val (.int x2), .val (.int g3), .val (.int x3), .val (.int g4), .val (.int x4), .val (.int (Int32.ofNat (dd (Mf g3 x3 (Mf g2 x2 (Mf g1 x1 []))))))]) (S' := [(.int x1), (.int x4)]) rfl ?_
          refine Run.icmp hK (cd := .eq) (o := 28) (by decide +kernel) (by decide) (pc' := 94) rfl (fun r2 => ?_) (fun r2 => ?_)
          · replace r2 := (h_eq _ _).1 r2
            have z := j4
            rw [Mf1 qg, dd_in (mem_M3_0 r r2)] at z
            exact z
          · replace r2 := (h_eq _ _).2 r2
            exact s0 (fun z => r2 z.2)
      intro m0
      refine Run.pure hK (seg := [(69, .iload_n 2, 1)]) (by decide +kernel) (pc' := 70) (L' := #[.val (.int g1), .val (.int x1), .val (.int g2), .val (.int x2), .val (.int g3), .val (.int x3), .val (.int g4), .val (.int x4), .val (.int (Int32.ofNat (dd (Mf g3 x3 (Mf g2 x2 (Mf g1 x1 []))))))]) (S' := [(.int g2)]) rfl ?_
      suffices s1 : ¬ (¬ g2 = 0 ∧ x4 = x2) → Run Z [] true K (fun v h' => h' = h ∧ v = some (.int (Int32.ofNat D4))) [] h 0 0 79 #[.val (.int g1), .val (.int x1), .val (.int g2), .val (.int x2), .val (.int g3), .val (.int x3), .val (.int g4), .val (.int x4), .val (.int (Int32.ofNat (dd (Mf g3 x3 (Mf g2 x2 (Mf g1 x1 []))))))] [] by
        refine Run.ifz hK (cd := .eq) (o := 9) (by decide +kernel) (by decide) (pc' := 79) rfl (fun r => ?_) (fun r => ?_)
        · replace r := (h_eq _ _).1 r
          exact s1 (fun z => z.1 r)
        · replace r := (h_eq _ _).2 r
          refine Run.pure hK (seg := [(73, .iload 7, 2), (75, .iload_n 3, 1)]) (by decide +kernel) (pc' := 76) (L' := #[.val (.int g1), .val (.int x1), .val (.int g2), .val (.int x2), .val (.int g3), .val (.int x3), .val (.int g4), .val (.int x4), .val (.int (Int32.ofNat (dd (Mf g3 x3 (Mf g2 x2 (Mf g1 x1 []))))))]) (S' := [(.int x2), (.int x4)]) rfl ?_
          refine Run.icmp hK (cd := .eq) (o := 18) (by decide +kernel) (by decide) (pc' := 94) rfl (fun r2 => ?_) (fun r2 => ?_)
          · replace r2 := (h_eq _ _).1 r2
            have z := j4
            rw [Mf1 qg, dd_in (mem_M3_1 r r2)] at z
            exact z
          · replace r2 := (h_eq _ _).2 r2
            exact s1 (fun z => r2 z.2)
      intro m1
      refine Run.pure hK (seg := [(79, .iload 4, 2)]) (by decide +kernel) (pc' := 81) (L' := #[.val (.int g1), .val (.int x1), .val (.int g2), .val (.int x2), .val (.int g3), .val (.int x3), .val (.int g4), .val (.int x4), .val (.int (Int32.ofNat (dd (Mf g3 x3 (Mf g2 x2 (Mf g1 x1 []))))))]) (S' := [(.int g3)]) rfl ?_
      suffices s2 : ¬ (¬ g3 = 0 ∧ x4 = x3) → Run Z [] true K (fun v h' => h' = h ∧ v = some (.int (Int32.ofNat D4))) [] h 0 0 91 #[.val (.int g1), .val (.int x1), .val (.int g2), .val (.int x2), .val (.int g3), .val (.int x3), .val (.int g4), .val (.int x4), .val (.int (Int32.ofNat (dd (Mf g3 x3 (Mf g2 x2 (Mf g1 x1 []))))))] [] by
        refine Run.ifz hK (cd := .eq) (o := 10) (by decide +kernel) (by decide) (pc' := 91) rfl (fun r => ?_) (fun r => ?_)
        · replace r := (h_eq _ _).1 r
          exact s2 (fun z => z.1 r)
        · replace r := (h_eq _ _).2 r
          refine Run.pure hK (seg := [(84, .iload 7, 2), (86, .iload 5, 2)]) (by decide +kernel) (pc' := 88) (L' := #[.val (.int g1), .val (.int x1), .val (.int g2), .val (.int x2), .val (.int g3), .val (.int x3), .val (.int g4), .val (.int x4), .val (.int (Int32.ofNat (dd (Mf g3 x3 (Mf g2 x2 (Mf g1 x1 []))))))]) (S' := [(.int x3), (.int x4)]) rfl ?_
          refine Run.icmp hK (cd := .eq) (o := 6) (by decide +kernel) (by decide) (pc' := 94) rfl (fun r2 => ?_) (fun r2 => ?_)
          · replace r2 := (h_eq _ _).1 r2
            have z := j4
            rw [Mf1 qg, dd_in (mem_M3_2 r r2)] at z
            exact z
          · replace r2 := (h_eq _ _).2 r2
            exact s2 (fun z => r2 z.2)
      intro m2
      refine Run.pure hK (seg := [(91, .iinc 8 1, 3)]) (by decide +kernel) (pc' := 94) (L' := #[.val (.int g1), .val (.int x1), .val (.int g2), .val (.int x2), .val (.int g3), .val (.int x3), .val (.int g4), .val (.int x4), .val (.int ((Int32.ofNat (dd (Mf g3 x3 (Mf g2 x2 (Mf g1 x1 []))))) + (1 : Int32)))]) (S' := []) rfl ?_
      have nm : ¬ x4 ∈ (Mf g3 x3 (Mf g2 x2 (Mf g1 x1 []))) := by
        simp only [mem_Mf, List.not_mem_nil, or_false, not_or]
        exact ⟨m2, m1, m0⟩
      have z := j4
      rw [Mf1 qg, dd_out nm, ← ofN_add'] at z
      exact z
  have j2 : Run Z [] true K (fun v h' => h' = h ∧ v = some (.int (Int32.ofNat D4))) [] h 0 0 26 #[.val (.int g1), .val (.int x1), .val (.int g2), .val (.int x2), .val (.int g3), .val (.int x3), .val (.int g4), .val (.int x4), .val (.int (Int32.ofNat (dd (Mf g2 x2 (Mf g1 x1 [])))))] [] := by
    refine Run.pure hK (seg := [(26, .iload 4, 2)]) (by decide +kernel) (pc' := 28) (L' := #[.val (.int g1), .val (.int x1), .val (.int g2), .val (.int x2), .val (.int g3), .val (.int x3), .val (.int g4), .val (.int x4), .val (.int (Int32.ofNat (dd (Mf g2 x2 (Mf g1 x1 [])))))]) (S' := [(.int g3)]) rfl ?_
    refine Run.ifz hK (cd := .eq) (o := 26) (by decide +kernel) (by decide) (pc' := 54) rfl (fun qg => ?_) (fun qg => ?_)
    · replace qg := (h_eq _ _).1 qg
      have z := j3
      rw [Mf0 qg] at z
      exact z
    · replace qg := (h_eq _ _).2 qg
      refine Run.pure hK (seg := [(31, .iload_n 0, 1)]) (by decide +kernel) (pc' := 32) (L' := #[.val (.int g1), .val (.int x1), .val (.int g2), .val (.int x2), .val (.int g3), .val (.int x3), .val (.int g4), .val (.int x4), .val (.int (Int32.ofNat (dd (Mf g2 x2 (Mf g1 x1 [])))))]) (S' := [(.int g1)]) rfl ?_
      suffices s0 : ¬ (¬ g1 = 0 ∧ x3 = x1) → Run Z [] true K (fun v h' => h' = h ∧ v = some (.int (Int32.ofNat D4))) [] h 0 0 41 #[.val (.int g1), .val (.int x1), .val (.int g2), .val (.int x2), .val (.int g3), .val (.int x3), .val (.int g4), .val (.int x4), .val (.int (Int32.ofNat (dd (Mf g2 x2 (Mf g1 x1 [])))))] [] by
        refine Run.ifz hK (cd := .eq) (o := 9) (by decide +kernel) (by decide) (pc' := 41) rfl (fun r => ?_) (fun r => ?_)
        · replace r := (h_eq _ _).1 r
          exact s0 (fun z => z.1 r)
        · replace r := (h_eq _ _).2 r
          refine Run.pure hK (seg := [(35, .iload 5, 2), (37, .iload_n 1, 1)]) (by decide +kernel) (pc' := 38) (L' := #[.val (.int g1), .val (.int x1), .val (.int g2), .val (.int x2), .val (.int g3), .val (.int x3), .val (.int g4), .val (.int x4), .val (.int (Int32.ofNat (dd (Mf g2 x2 (Mf g1 x1 [])))))]) (S' := [(.int x1), (.int x3)]) rfl ?_
          refine Run.icmp hK (cd := .eq) (o := 16) (by decide +kernel) (by decide) (pc' := 54) rfl (fun r2 => ?_) (fun r2 => ?_)
          · replace r2 := (h_eq _ _).1 r2
            have z := j3
            rw [Mf1 qg, dd_in (mem_M2_0 r r2)] at z
            exact z
          · replace r2 := (h_eq _ _).2 r2
            exact s0 (fun z => r2 z.2)
      intro m0
      refine Run.pure hK (seg := [(41, .iload_n 2, 1)]) (by decide +kernel) (pc' := 42) (L' := #[.val (.int g1), .val (.int x1), .val (.int g2), .val (.int x2), .val (.int g3), .val (.int x3), .val (.int g4), .val (.int x4), .val (.int (Int32.ofNat (dd (Mf g2 x2 (Mf g1 x1 [])))))]) (S' := [(.int g2)]) rfl ?_
      suffices s1 : ¬ (¬ g2 = 0 ∧ x3 = x2) → Run Z [] true K (fun v h' => h' = h ∧ v = some (.int (Int32.ofNat D4))) [] h 0 0 51 #[.val (.int g1), .val (.int x1), .val (.int g2), .val (.int x2), .val (.int g3), .val (.int x3), .val (.int g4), .val (.int x4), .val (.int (Int32.ofNat (dd (Mf g2 x2 (Mf g1 x1 [])))))] [] by
        refine Run.ifz hK (cd := .eq) (o := 9) (by decide +kernel) (by decide) (pc' := 51) rfl (fun r => ?_) (fun r => ?_)
        · replace r := (h_eq _ _).1 r
          exact s1 (fun z => z.1 r)
        · replace r := (h_eq _ _).2 r
          refine Run.pure hK (seg := [(45, .iload 5, 2), (47, .iload_n 3, 1)]) (by decide +kernel) (pc' := 48) (L' := #[.val (.int g1), .val (.int x1), .val (.int g2), .val (.int x2), .val (.int g3), .val (.int x3), .val (.int g4), .val (.int x4), .val (.int (Int32.ofNat (dd (Mf g2 x2 (Mf g1 x1 [])))))]) (S' := [(.int x2), (.int x3)]) rfl ?_
          refine Run.icmp hK (cd := .eq) (o := 6) (by decide +kernel) (by decide) (pc' := 54) rfl (fun r2 => ?_) (fun r2 => ?_)
          · replace r2 := (h_eq _ _).1 r2
            have z := j3
            rw [Mf1 qg, dd_in (mem_M2_1 r r2)] at z
            exact z
          · replace r2 := (h_eq _ _).2 r2
            exact s1 (fun z => r2 z.2)
      intro m1
      refine Run.pure hK (seg := [(51, .iinc 8 1, 3)]) (by decide +kernel) (pc' := 54) (L' := #[.val (.int g1), .val (.int x1), .val (.int g2), .val (.int x2), .val (.int g3), .val (.int x3), .val (.int g4), .val (.int x4), .val (.int ((Int32.ofNat (dd (Mf g2 x2 (Mf g1 x1 [])))) + (1 : Int32)))]) (S' := []) rfl ?_
      have nm : ¬ x3 ∈ (Mf g2 x2 (Mf g1 x1 [])) := by
        simp only [mem_Mf, List.not_mem_nil, or_false, not_or]
        exact ⟨m1, m0⟩
      have z := j3
      rw [Mf1 qg, dd_out nm, ← ofN_add'] at z
      exact z
  have j1 : Run Z [] true K (fun v h' => h' = h ∧ v = some (.int (Int32.ofNat D4))) [] h 0 0 10 #[.val (.int g1), .val (.int x1), .val (.int g2), .val (.int x2), .val (.int g3), .val (.int x3), .val (.int g4), .val (.int x4), .val (.int (Int32.ofNat (dd (Mf g1 x1 []))))] [] := by
    refine Run.pure hK (seg := [(10, .iload_n 2, 1)]) (by decide +kernel) (pc' := 11) (L' := #[.val (.int g1), .val (.int x1), .val (.int g2), .val (.int x2), .val (.int g3), .val (.int x3), .val (.int g4), .val (.int x4), .val (.int (Int32.ofNat (dd (Mf g1 x1 []))))]) (S' := [(.int g2)]) rfl ?_
    refine Run.ifz hK (cd := .eq) (o := 15) (by decide +kernel) (by decide) (pc' := 26) rfl (fun qg => ?_) (fun qg => ?_)
    · replace qg := (h_eq _ _).1 qg
      have z := j2
      rw [Mf0 qg] at z
      exact z
    · replace qg := (h_eq _ _).2 qg
      refine Run.pure hK (seg := [(14, .iload_n 0, 1)]) (by decide +kernel) (pc' := 15) (L' := #[.val (.int g1), .val (.int x1), .val (.int g2), .val (.int x2), .val (.int g3), .val (.int x3), .val (.int g4), .val (.int x4), .val (.int (Int32.ofNat (dd (Mf g1 x1 []))))]) (S' := [(.int g1)]) rfl ?_
      suffices s0 : ¬ (¬ g1 = 0 ∧ x2 = x1) → Run Z [] true K (fun v h' => h' = h ∧ v = some (.int (Int32.ofNat D4))) [] h 0 0 23 #[.val (.int g1), .val (.int x1), .val (.int g2), .val (.int x2), .val (.int g3), .val (.int x3), .val (.int g4), .val (.int x4), .val (.int (Int32.ofNat (dd (Mf g1 x1 []))))] [] by
        refine Run.ifz hK (cd := .eq) (o := 8) (by decide +kernel) (by decide) (pc' := 23) rfl (fun r => ?_) (fun r => ?_)
        · replace r := (h_eq _ _).1 r
          exact s0 (fun z => z.1 r)
        · replace r := (h_eq _ _).2 r
          refine Run.pure hK (seg := [(18, .iload_n 3, 1), (19, .iload_n 1, 1)]) (by decide +kernel) (pc' := 20) (L' := #[.val (.int g1), .val (.int x1), .val (.int g2), .val (.int x2), .val (.int g3), .val (.int x3), .val (.int g4), .val (.int x4), .val (.int (Int32.ofNat (dd (Mf g1 x1 []))))]) (S' := [(.int x1), (.int x2)]) rfl ?_
          refine Run.icmp hK (cd := .eq) (o := 6) (by decide +kernel) (by decide) (pc' := 26) rfl (fun r2 => ?_) (fun r2 => ?_)
          · replace r2 := (h_eq _ _).1 r2
            have z := j2
            rw [Mf1 qg, dd_in (mem_M1_0 r r2)] at z
            exact z
          · replace r2 := (h_eq _ _).2 r2
            exact s0 (fun z => r2 z.2)
      intro m0
      refine Run.pure hK (seg := [(23, .iinc 8 1, 3)]) (by decide +kernel) (pc' := 26) (L' := #[.val (.int g1), .val (.int x1), .val (.int g2), .val (.int x2), .val (.int g3), .val (.int x3), .val (.int g4), .val (.int x4), .val (.int ((Int32.ofNat (dd (Mf g1 x1 []))) + (1 : Int32)))]) (S' := []) rfl ?_
      have nm : ¬ x2 ∈ (Mf g1 x1 []) := by
        simp only [mem_Mf, List.not_mem_nil, or_false, not_or]
        exact m0
      have z := j2
      rw [Mf1 qg, dd_out nm, ← ofN_add'] at z
      exact z
  have j0 : Run Z [] true K (fun v h' => h' = h ∧ v = some (.int (Int32.ofNat D4))) [] h 0 0 3 #[.val (.int g1), .val (.int x1), .val (.int g2), .val (.int x2), .val (.int g3), .val (.int x3), .val (.int g4), .val (.int x4), .val (.int (Int32.ofNat (dd [])))] [] := by
    refine Run.pure hK (seg := [(3, .iload_n 0, 1)]) (by decide +kernel) (pc' := 4) (L' := #[.val (.int g1), .val (.int x1), .val (.int g2), .val (.int x2), .val (.int g3), .val (.int x3), .val (.int g4), .val (.int x4), .val (.int (Int32.ofNat (dd [])))]) (S' := [(.int g1)]) rfl ?_
    refine Run.ifz hK (cd := .eq) (o := 6) (by decide +kernel) (by decide) (pc' := 10) rfl (fun qg => ?_) (fun qg => ?_)
    · replace qg := (h_eq _ _).1 qg
      have z := j1
      rw [Mf0 qg] at z
      exact z
    · replace qg := (h_eq _ _).2 qg
      refine Run.pure hK (seg := [(7, .iinc 8 1, 3)]) (by decide +kernel) (pc' := 10) (L' := #[.val (.int g1), .val (.int x1), .val (.int g2), .val (.int x2), .val (.int g3), .val (.int x3), .val (.int g4), .val (.int x4), .val (.int ((Int32.ofNat (dd [])) + (1 : Int32)))]) (S' := []) rfl ?_
      have nm : ¬ x1 ∈ ([] : List Int32) := List.not_mem_nil
      have z := j1
      rw [Mf1 qg, dd_out nm, ← ofN_add'] at z
      exact z
  exact j0
set_option maxRecDepth 65536 in
set_option maxHeartbeats 40000000 in
theorem c_law {l : Launch} {Z : State} {a0 : Array Value} (G : Env1 Z a0) (i0 i1 i2 i3 i4 i5 : Int32) (h : Heap) : Ctr Z [] true l tables_1 x code maxLocals ret ({ frames := 6, cells := 24, slots := 128, locals := 160 } : Room) #[(.int i0), (.int i1), (.int i2), (.int i3), (.int i4), (.int i5)] h [] (fun v h' => v = some (.int 1)) := by
  obtain ⟨hw, N1, N2, nk1, nk2, NS1, NA1, NS2, NA2⟩ := id G; have hEL := (EW.nil : EW Z a0 [])
  refine Ctr.of_run (a0 := a0) (L0 := #[.val (.int i0), .val (.int i1), .val (.int i2), .val (.int i3), .val (.int i4), .val (.int i5), .unset, .unset, .unset, .unset, .unset, .unset, .unset, .unset, .unset, .unset, .unset]) (plainFor_of_name pn_law) hEL (by first | (simp [argsToLocals, Value.category, maxLocals]; done) | rfl) (fun K hK => ?_)
  replace hK : Ok Z [] a0 l "com/example/liveness/liveness/IntSetAddAllPinLaw" "law" code 17 (some .boolean) ({ frames := 6, cells := 24, slots := 128, locals := 160 } : Room) K := hK
  refine Run.pure hK (seg := [(0, .iload_n 0, 1)]) (by decide +kernel) (pc' := 1) (L' := #[.val (.int i0), .val (.int i1), .val (.int i2), .val (.int i3), .val (.int i4), .val (.int i5), .unset, .unset, .unset, .unset, .unset, .unset, .unset, .unset, .unset, .unset, .unset]) (S' := [(.int i0)]) rfl ?_
  refine Run.ldci hK (index := 7) (hw _ (List.mem_of_getElem? (i := 0) rfl)) (by decide +kernel) ?_
  refine Run.pure hK (seg := [(3, .iand, 1)]) (by decide +kernel) (pc' := 4) (L' := #[.val (.int i0), .val (.int i1), .val (.int i2), .val (.int i3), .val (.int i4), .val (.int i5), .unset, .unset, .unset, .unset, .unset, .unset, .unset, .unset, .unset, .unset, .unset]) (S' := [(.int (i0 &&& (2147483647 : Int32)))]) rfl ?_
  obtain ⟨x1, e_x1⟩ : ∃ z : Int32, z = (i0 &&& (2147483647 : Int32)) := ⟨_, rfl⟩
  rw [← e_x1]
  have n1 : ¬ x1 < 0 := by rw [e_x1]; exact nn31 _
  refine Run.pure hK (seg := [(4, .istore 6, 2), (6, .iload_n 1, 1)]) (by decide +kernel) (pc' := 7) (L' := #[.val (.int i0), .val (.int i1), .val (.int i2), .val (.int i3), .val (.int i4), .val (.int i5), .val (.int x1), .unset, .unset, .unset, .unset, .unset, .unset, .unset, .unset, .unset, .unset]) (S' := [(.int i1)]) rfl ?_
  refine Run.ldci hK (index := 7) (hw _ (List.mem_of_getElem? (i := 0) rfl)) (by decide +kernel) ?_
  refine Run.pure hK (seg := [(9, .iand, 1)]) (by decide +kernel) (pc' := 10) (L' := #[.val (.int i0), .val (.int i1), .val (.int i2), .val (.int i3), .val (.int i4), .val (.int i5), .val (.int x1), .unset, .unset, .unset, .unset, .unset, .unset, .unset, .unset, .unset, .unset]) (S' := [(.int (i1 &&& (2147483647 : Int32)))]) rfl ?_
  obtain ⟨x2, e_x2⟩ : ∃ z : Int32, z = (i1 &&& (2147483647 : Int32)) := ⟨_, rfl⟩
  rw [← e_x2]
  have n2 : ¬ x2 < 0 := by rw [e_x2]; exact nn31 _
  refine Run.pure hK (seg := [(10, .istore 7, 2), (12, .iload_n 2, 1)]) (by decide +kernel) (pc' := 13) (L' := #[.val (.int i0), .val (.int i1), .val (.int i2), .val (.int i3), .val (.int i4), .val (.int i5), .val (.int x1), .val (.int x2), .unset, .unset, .unset, .unset, .unset, .unset, .unset, .unset, .unset]) (S' := [(.int i2)]) rfl ?_
  refine Run.ldci hK (index := 7) (hw _ (List.mem_of_getElem? (i := 0) rfl)) (by decide +kernel) ?_
  refine Run.pure hK (seg := [(15, .iand, 1)]) (by decide +kernel) (pc' := 16) (L' := #[.val (.int i0), .val (.int i1), .val (.int i2), .val (.int i3), .val (.int i4), .val (.int i5), .val (.int x1), .val (.int x2), .unset, .unset, .unset, .unset, .unset, .unset, .unset, .unset, .unset]) (S' := [(.int (i2 &&& (2147483647 : Int32)))]) rfl ?_
  obtain ⟨x3, e_x3⟩ : ∃ z : Int32, z = (i2 &&& (2147483647 : Int32)) := ⟨_, rfl⟩
  rw [← e_x3]
  have n3 : ¬ x3 < 0 := by rw [e_x3]; exact nn31 _
  refine Run.pure hK (seg := [(16, .istore 8, 2), (18, .iload_n 3, 1)]) (by decide +kernel) (pc' := 19) (L' := #[.val (.int i0), .val (.int i1), .val (.int i2), .val (.int i3), .val (.int i4), .val (.int i5), .val (.int x1), .val (.int x2), .val (.int x3), .unset, .unset, .unset, .unset, .unset, .unset, .unset, .unset]) (S' := [(.int i3)]) rfl ?_
  refine Run.ldci hK (index := 7) (hw _ (List.mem_of_getElem? (i := 0) rfl)) (by decide +kernel) ?_
  refine Run.pure hK (seg := [(21, .iand, 1)]) (by decide +kernel) (pc' := 22) (L' := #[.val (.int i0), .val (.int i1), .val (.int i2), .val (.int i3), .val (.int i4), .val (.int i5), .val (.int x1), .val (.int x2), .val (.int x3), .unset, .unset, .unset, .unset, .unset, .unset, .unset, .unset]) (S' := [(.int (i3 &&& (2147483647 : Int32)))]) rfl ?_
  obtain ⟨x4, e_x4⟩ : ∃ z : Int32, z = (i3 &&& (2147483647 : Int32)) := ⟨_, rfl⟩
  rw [← e_x4]
  have n4 : ¬ x4 < 0 := by rw [e_x4]; exact nn31 _
  refine Run.pure hK (seg := [(22, .istore 9, 2), (24, .iload 5, 2), (26, .iconst 1, 1), (27, .iand, 1)]) (by decide +kernel) (pc' := 28) (L' := #[.val (.int i0), .val (.int i1), .val (.int i2), .val (.int i3), .val (.int i4), .val (.int i5), .val (.int x1), .val (.int x2), .val (.int x3), .val (.int x4), .unset, .unset, .unset, .unset, .unset, .unset, .unset]) (S' := [(.int (i5 &&& (1 : Int32)))]) rfl ?_
  suffices s1 : ∀ g1 : Int32, Run Z [] true K (fun v h' => v = some (.int 1)) [] h 0 0 36 #[.val (.int i0), .val (.int i1), .val (.int i2), .val (.int i3), .val (.int i4), .val (.int i5), .val (.int x1), .val (.int x2), .val (.int x3), .val (.int x4), .unset, .unset, .unset, .unset, .unset, .unset, .unset] [(.int g1)] by
    refine Run.ifz hK (cd := .eq) (o := 7) (by decide +kernel) (by decide) (pc' := 35) rfl (fun r => ?_) (fun r => ?_)
    · replace r := (h_eq _ _).1 r
      refine Run.pure hK (seg := [(35, .iconst 0, 1)]) (by decide +kernel) (pc' := 36) (L' := #[.val (.int i0), .val (.int i1), .val (.int i2), .val (.int i3), .val (.int i4), .val (.int i5), .val (.int x1), .val (.int x2), .val (.int x3), .val (.int x4), .unset, .unset, .unset, .unset, .unset, .unset, .unset]) (S' := [(.int (0 : Int32))]) rfl ?_
      exact s1 _
    · replace r := (h_eq _ _).2 r
      refine Run.pure hK (seg := [(31, .iconst 1, 1), (32, .goto 4, 3)]) (by decide +kernel) (pc' := 36) (L' := #[.val (.int i0), .val (.int i1), .val (.int i2), .val (.int i3), .val (.int i4), .val (.int i5), .val (.int x1), .val (.int x2), .val (.int x3), .val (.int x4), .unset, .unset, .unset, .unset, .unset, .unset, .unset]) (S' := [(.int (1 : Int32))]) rfl ?_
      exact s1 _
  intro g1
  refine Run.pure hK (seg := [(36, .istore 10, 2), (38, .iload 5, 2), (40, .iconst 2, 1), (41, .iand, 1)]) (by decide +kernel) (pc' := 42) (L' := #[.val (.int i0), .val (.int i1), .val (.int i2), .val (.int i3), .val (.int i4), .val (.int i5), .val (.int x1), .val (.int x2), .val (.int x3), .val (.int x4), .val (.int g1), .unset, .unset, .unset, .unset, .unset, .unset]) (S' := [(.int (i5 &&& (2 : Int32)))]) rfl ?_
  suffices s2 : ∀ g2 : Int32, Run Z [] true K (fun v h' => v = some (.int 1)) [] h 0 0 50 #[.val (.int i0), .val (.int i1), .val (.int i2), .val (.int i3), .val (.int i4), .val (.int i5), .val (.int x1), .val (.int x2), .val (.int x3), .val (.int x4), .val (.int g1), .unset, .unset, .unset, .unset, .unset, .unset] [(.int g2)] by
    refine Run.ifz hK (cd := .eq) (o := 7) (by decide +kernel) (by decide) (pc' := 49) rfl (fun r => ?_) (fun r => ?_)
    · replace r := (h_eq _ _).1 r
      refine Run.pure hK (seg := [(49, .iconst 0, 1)]) (by decide +kernel) (pc' := 50) (L' := #[.val (.int i0), .val (.int i1), .val (.int i2), .val (.int i3), .val (.int i4), .val (.int i5), .val (.int x1), .val (.int x2), .val (.int x3), .val (.int x4), .val (.int g1), .unset, .unset, .unset, .unset, .unset, .unset]) (S' := [(.int (0 : Int32))]) rfl ?_
      exact s2 _
    · replace r := (h_eq _ _).2 r
      refine Run.pure hK (seg := [(45, .iconst 1, 1), (46, .goto 4, 3)]) (by decide +kernel) (pc' := 50) (L' := #[.val (.int i0), .val (.int i1), .val (.int i2), .val (.int i3), .val (.int i4), .val (.int i5), .val (.int x1), .val (.int x2), .val (.int x3), .val (.int x4), .val (.int g1), .unset, .unset, .unset, .unset, .unset, .unset]) (S' := [(.int (1 : Int32))]) rfl ?_
      exact s2 _
  intro g2
  refine Run.pure hK (seg := [(50, .istore 11, 2), (52, .iload 5, 2), (54, .iconst 4, 1), (55, .iand, 1)]) (by decide +kernel) (pc' := 56) (L' := #[.val (.int i0), .val (.int i1), .val (.int i2), .val (.int i3), .val (.int i4), .val (.int i5), .val (.int x1), .val (.int x2), .val (.int x3), .val (.int x4), .val (.int g1), .val (.int g2), .unset, .unset, .unset, .unset, .unset]) (S' := [(.int (i5 &&& (4 : Int32)))]) rfl ?_
  suffices s3 : ∀ g3 : Int32, Run Z [] true K (fun v h' => v = some (.int 1)) [] h 0 0 64 #[.val (.int i0), .val (.int i1), .val (.int i2), .val (.int i3), .val (.int i4), .val (.int i5), .val (.int x1), .val (.int x2), .val (.int x3), .val (.int x4), .val (.int g1), .val (.int g2), .unset, .unset, .unset, .unset, .unset] [(.int g3)] by
    refine Run.ifz hK (cd := .eq) (o := 7) (by decide +kernel) (by decide) (pc' := 63) rfl (fun r => ?_) (fun r => ?_)
    · replace r := (h_eq _ _).1 r
      refine Run.pure hK (seg := [(63, .iconst 0, 1)]) (by decide +kernel) (pc' := 64) (L' := #[.val (.int i0), .val (.int i1), .val (.int i2), .val (.int i3), .val (.int i4), .val (.int i5), .val (.int x1), .val (.int x2), .val (.int x3), .val (.int x4), .val (.int g1), .val (.int g2), .unset, .unset, .unset, .unset, .unset]) (S' := [(.int (0 : Int32))]) rfl ?_
      exact s3 _
    · replace r := (h_eq _ _).2 r
      refine Run.pure hK (seg := [(59, .iconst 1, 1), (60, .goto 4, 3)]) (by decide +kernel) (pc' := 64) (L' := #[.val (.int i0), .val (.int i1), .val (.int i2), .val (.int i3), .val (.int i4), .val (.int i5), .val (.int x1), .val (.int x2), .val (.int x3), .val (.int x4), .val (.int g1), .val (.int g2), .unset, .unset, .unset, .unset, .unset]) (S' := [(.int (1 : Int32))]) rfl ?_
      exact s3 _
  intro g3
  refine Run.pure hK (seg := [(64, .istore 12, 2), (66, .iload 5, 2), (68, .bipush 8, 2), (70, .iand, 1)]) (by decide +kernel) (pc' := 71) (L' := #[.val (.int i0), .val (.int i1), .val (.int i2), .val (.int i3), .val (.int i4), .val (.int i5), .val (.int x1), .val (.int x2), .val (.int x3), .val (.int x4), .val (.int g1), .val (.int g2), .val (.int g3), .unset, .unset, .unset, .unset]) (S' := [(.int (i5 &&& (8 : Int32)))]) rfl ?_
  suffices s4 : ∀ g4 : Int32, Run Z [] true K (fun v h' => v = some (.int 1)) [] h 0 0 79 #[.val (.int i0), .val (.int i1), .val (.int i2), .val (.int i3), .val (.int i4), .val (.int i5), .val (.int x1), .val (.int x2), .val (.int x3), .val (.int x4), .val (.int g1), .val (.int g2), .val (.int g3), .unset, .unset, .unset, .unset] [(.int g4)] by
    refine Run.ifz hK (cd := .eq) (o := 7) (by decide +kernel) (by decide) (pc' := 78) rfl (fun r => ?_) (fun r => ?_)
    · replace r := (h_eq _ _).1 r
      refine Run.pure hK (seg := [(78, .iconst 0, 1)]) (by decide +kernel) (pc' := 79) (L' := #[.val (.int i0), .val (.int i1), .val (.int i2), .val (.int i3), .val (.int i4), .val (.int i5), .val (.int x1), .val (.int x2), .val (.int x3), .val (.int x4), .val (.int g1), .val (.int g2), .val (.int g3), .unset, .unset, .unset, .unset]) (S' := [(.int (0 : Int32))]) rfl ?_
      exact s4 _
    · replace r := (h_eq _ _).2 r
      refine Run.pure hK (seg := [(74, .iconst 1, 1), (75, .goto 4, 3)]) (by decide +kernel) (pc' := 79) (L' := #[.val (.int i0), .val (.int i1), .val (.int i2), .val (.int i3), .val (.int i4), .val (.int i5), .val (.int x1), .val (.int x2), .val (.int x3), .val (.int x4), .val (.int g1), .val (.int g2), .val (.int g3), .unset, .unset, .unset, .unset]) (S' := [(.int (1 : Int32))]) rfl ?_
      exact s4 _
  intro g4
  refine Run.pure hK (seg := [(79, .istore 13, 2)]) (by decide +kernel) (pc' := 81) (L' := #[.val (.int i0), .val (.int i1), .val (.int i2), .val (.int i3), .val (.int i4), .val (.int i5), .val (.int x1), .val (.int x2), .val (.int x3), .val (.int x4), .val (.int g1), .val (.int g2), .val (.int g3), .val (.int g4), .unset, .unset, .unset]) (S' := []) rfl ?_
  refine Run.old (fun hOA => ?_)
  refine Run.new hK (index := 8) (C := "com/example/liveness/liveness/IntSet") (n := 3) (hw _ (List.mem_of_getElem? (i := 1) rfl)) (hw _ (List.mem_of_getElem? (i := 2) rfl)) (hw _ (List.mem_of_getElem? (i := 3) rfl)) (by decide +kernel) (by decide) (by decide) (fun hA EA XA DA => ?_)
  obtain ⟨aA, zA⟩ : ∃ z, z = h.size := ⟨_, rfl⟩
  rw [← zA]
  rw [← zA] at XA DA
  refine Run.pure hK (seg := [(84, .dup, 1)]) (by decide +kernel) (pc' := 85) (L' := #[.val (.int i0), .val (.int i1), .val (.int i2), .val (.int i3), .val (.int i4), .val (.int i5), .val (.int x1), .val (.int x2), .val (.int x3), .val (.int x4), .val (.int g1), .val (.int g2), .val (.int g3), .val (.int g4), .unset, .unset, .unset]) (S' := [(.ref aA), (.ref aA)]) rfl ?_
  have DA1 := DA (Or.inl (hw _ (List.mem_of_getElem? (i := 18) rfl))) (ty := .array .int) (by decide)
  have DA2 := DA (Or.inl (hw _ (List.mem_of_getElem? (i := 20) rfl))) (ty := .array .long) (by decide)
  have DA3 := DA (Or.inl (hw _ (List.mem_of_getElem? (i := 22) rfl))) (ty := .int) (by decide)
  refine Run.special hK (index := 10) (y := (⟨"com/example/liveness/liveness/IntSet", "<init>", "()V"⟩ : MethodName)) (Wt := 1) (kc := 0) (ks := 0) rfl (hw _ (List.mem_of_getElem? (i := 4) rfl)) (hw _ (List.mem_of_getElem? (i := 5) rfl)) (hw _ (List.mem_of_getElem? (i := 6) rfl)) (by decide) (a := aA) (W' := []) (fun _ q => nomatch q) (Ctr.cal (c_i0 G aA hA (by rw [zA]; exact hOA.1) XA ⟨DA1, DA2, DA3⟩) (hw _ (List.mem_of_getElem? (i := 6) rfl)) (hw _ (List.mem_of_getElem? (i := 3) rfl)) (by decide) (by decide)) rfl (argsL := []) (rest := [(.ref aA)]) (lenOf pd_v rfl) rfl (Nat.le_of_ble_eq_true rfl) (by decide +kernel) (by decide) (by decide) (fun viA hiA qiA niA => ?_)
  obtain ⟨rfl, IA, KA⟩ := qiA
  refine Run.old (fun hOB => ?_)
  refine Run.pure hK (seg := [(88, .astore 14, 2)]) (by decide +kernel) (pc' := 90) (L' := #[.val (.int i0), .val (.int i1), .val (.int i2), .val (.int i3), .val (.int i4), .val (.int i5), .val (.int x1), .val (.int x2), .val (.int x3), .val (.int x4), .val (.int g1), .val (.int g2), .val (.int g3), .val (.int g4), .val (.ref aA), .unset, .unset]) (S' := []) rfl ?_
  refine Run.new hK (index := 8) (C := "com/example/liveness/liveness/IntSet") (n := 3) (hw _ (List.mem_of_getElem? (i := 1) rfl)) (hw _ (List.mem_of_getElem? (i := 2) rfl)) (hw _ (List.mem_of_getElem? (i := 3) rfl)) (by decide +kernel) (by decide) (by decide) (fun hB EB XB DB => ?_)
  obtain ⟨aB, zB⟩ : ∃ z, z = hiA.size := ⟨_, rfl⟩
  rw [← zB]
  rw [← zB] at XB DB
  refine Run.pure hK (seg := [(93, .dup, 1)]) (by decide +kernel) (pc' := 94) (L' := #[.val (.int i0), .val (.int i1), .val (.int i2), .val (.int i3), .val (.int i4), .val (.int i5), .val (.int x1), .val (.int x2), .val (.int x3), .val (.int x4), .val (.int g1), .val (.int g2), .val (.int g3), .val (.int g4), .val (.ref aA), .unset, .unset]) (S' := [(.ref aB), (.ref aB)]) rfl ?_
  have DB1 := DB (Or.inl (hw _ (List.mem_of_getElem? (i := 18) rfl))) (ty := .array .int) (by decide)
  have DB2 := DB (Or.inl (hw _ (List.mem_of_getElem? (i := 20) rfl))) (ty := .array .long) (by decide)
  have DB3 := DB (Or.inl (hw _ (List.mem_of_getElem? (i := 22) rfl))) (ty := .int) (by decide)
  refine Run.special hK (index := 10) (y := (⟨"com/example/liveness/liveness/IntSet", "<init>", "()V"⟩ : MethodName)) (Wt := 1) (kc := 0) (ks := 0) rfl (hw _ (List.mem_of_getElem? (i := 4) rfl)) (hw _ (List.mem_of_getElem? (i := 5) rfl)) (hw _ (List.mem_of_getElem? (i := 6) rfl)) (by decide) (a := aB) (W' := []) (fun _ q => nomatch q) (Ctr.cal (c_i0 G aB hB (by rw [zB]; exact hOB.1) XB ⟨DB1, DB2, DB3⟩) (hw _ (List.mem_of_getElem? (i := 6) rfl)) (hw _ (List.mem_of_getElem? (i := 3) rfl)) (by decide) (by decide)) rfl (argsL := []) (rest := [(.ref aB)]) (lenOf pd_v rfl) rfl (Nat.le_of_ble_eq_true rfl) (by decide +kernel) (by decide) (by decide) (fun viB hiB qiB niB => ?_)
  obtain ⟨rfl, IB, KB⟩ := qiB
  have ltA := IA.lt aA (List.mem_singleton.mpr rfl)
  have nAB : aA ≠ aB := fun z => absurd ltA (by rw [z, zB]; exact Nat.lt_irrefl _)
  replace IA := (IA.ext EB).keep KB (fun x hx z => nAB (by cases List.mem_singleton.mp hx; exact List.mem_singleton.mp z)) (fun x hx => by cases List.mem_singleton.mp hx; exact IB.at)
  refine Run.pure hK (seg := [(97, .astore 15, 2)]) (by decide +kernel) (pc' := 99) (L' := #[.val (.int i0), .val (.int i1), .val (.int i2), .val (.int i3), .val (.int i4), .val (.int i5), .val (.int x1), .val (.int x2), .val (.int x3), .val (.int x4), .val (.int g1), .val (.int g2), .val (.int g3), .val (.int g4), .val (.ref aA), .val (.ref aB), .unset]) (S' := []) rfl ?_
  refine Run.less (W' := []) ?_ (fun _ q => nomatch q)
  have T0 : TS Z hiB aA aB [] [] 0 0 := ⟨_, _, _, _, _, _, _, _, IA, IB, Rep.nil, Rep.nil, by decide, by decide, Nat.le_refl _, Nat.le_refl _, fun x hx z => nAB (by cases List.mem_singleton.mp hx; exact List.mem_singleton.mp z)⟩
  refine Run.pure hK (seg := [(99, .iload 10, 2)]) (by decide +kernel) (pc' := 101) (L' := #[.val (.int i0), .val (.int i1), .val (.int i2), .val (.int i3), .val (.int i4), .val (.int i5), .val (.int x1), .val (.int x2), .val (.int x3), .val (.int x4), .val (.int g1), .val (.int g2), .val (.int g3), .val (.int g4), .val (.ref aA), .val (.ref aB), .unset]) (S' := [(.int g1)]) rfl ?_
  suffices u1 : ∀ hh : Heap, TS Z hh aA aB (Mf g1 x1 []) [] 1 0 → Run Z [] true K (fun v h' => v = some (.int 1)) [] hh 4 14 111 #[.val (.int i0), .val (.int i1), .val (.int i2), .val (.int i3), .val (.int i4), .val (.int i5), .val (.int x1), .val (.int x2), .val (.int x3), .val (.int x4), .val (.int g1), .val (.int g2), .val (.int g3), .val (.int g4), .val (.ref aA), .val (.ref aB), .unset] [] by
    refine Run.ifz hK (cd := .eq) (o := 10) (by decide +kernel) (by decide) (pc' := 111) rfl (fun r => ?_) (fun r => ?_)
    · replace r := (h_eq _ _).1 r
      refine Run.mono (u1 _ ?_) (by decide) (by decide)
      rw [Mf0 r]
      exact T0.wk (by decide) (by decide)
    · replace r := (h_eq _ _).2 r
      obtain ⟨owa, ka, wa, na, owb, kb, wb, nb, JA, JB, RA, RB, ya, yb, la, lb, dj⟩ := T0
      refine Run.pure hK (seg := [(104, .aload 14, 2), (106, .iload 6, 2)]) (by decide +kernel) (pc' := 108) (L' := #[.val (.int i0), .val (.int i1), .val (.int i2), .val (.int i3), .val (.int i4), .val (.int i5), .val (.int x1), .val (.int x2), .val (.int x3), .val (.int x4), .val (.int g1), .val (.int g2), .val (.int g3), .val (.int g4), .val (.ref aA), .val (.ref aB), .unset]) (S' := [(.int x1), (.ref aA)]) rfl ?_
      refine Run.virtual hK (index := 11) (y := (⟨"com/example/liveness/liveness/IntSet", "add", "(I)V"⟩ : MethodName)) (z := (⟨"com/example/liveness/liveness/IntSet", "add", "(I)V"⟩ : MethodName)) (C := "com/example/liveness/liveness/IntSet") (Wt := 0) (kc := 2) (ks := 8) (hw _ (List.mem_of_getElem? (i := 23) rfl)) (hw _ (List.mem_of_getElem? (i := 24) rfl)) (nfS (hw _ (List.mem_of_getElem? (i := 26) rfl))) (hw _ (List.mem_of_getElem? (i := 26) rfl)) (hw _ (List.mem_of_getElem? (i := 25) rfl)) (by decide) (a := aA) JA.exa (W' := []) (fun _ q => nomatch q) (Ctr.cal (c_add G aA x1 hiB n1 JA RA (by omega) ya) (hw _ (List.mem_of_getElem? (i := 27) rfl)) (hw _ (List.mem_of_getElem? (i := 3) rfl)) (by decide) (by decide)) rfl (argsL := [(.int x1)]) (rest := []) (lenOf pd_add rfl) rfl (Nat.le_of_ble_eq_true rfl) (by decide +kernel) (by decide) (by decide) (fun vc hc qc nc => ?_)
      obtain ⟨rfl, ow', ks', ws', n', J', R', y', l', K', g'⟩ := qc
      refine u1 _ ?_
      rw [Mf1 r]
      exact ⟨_, _, _, _, _, _, _, _, J', JB.keep K' (fun x hx z => dj x z hx) JA.ge, R', RB, y', yb, by omega, lb, fun x hx z => (g' x hx).elim (fun y => dj x y z) (fun y => absurd (JB.lt x z) (Nat.not_lt.mpr y))⟩
  intro f1 T1
  refine Run.pure hK (seg := [(111, .iload 11, 2)]) (by decide +kernel) (pc' := 113) (L' := #[.val (.int i0), .val (.int i1), .val (.int i2), .val (.int i3), .val (.int i4), .val (.int i5), .val (.int x1), .val (.int x2), .val (.int x3), .val (.int x4), .val (.int g1), .val (.int g2), .val (.int g3), .val (.int g4), .val (.ref aA), .val (.ref aB), .unset]) (S' := [(.int g2)]) rfl ?_
  suffices u2 : ∀ hh : Heap, TS Z hh aA aB (Mf g2 x2 (Mf g1 x1 [])) [] 2 0 → Run Z [] true K (fun v h' => v = some (.int 1)) [] hh 6 22 123 #[.val (.int i0), .val (.int i1), .val (.int i2), .val (.int i3), .val (.int i4), .val (.int i5), .val (.int x1), .val (.int x2), .val (.int x3), .val (.int x4), .val (.int g1), .val (.int g2), .val (.int g3), .val (.int g4), .val (.ref aA), .val (.ref aB), .unset] [] by
    refine Run.ifz hK (cd := .eq) (o := 10) (by decide +kernel) (by decide) (pc' := 123) rfl (fun r => ?_) (fun r => ?_)
    · replace r := (h_eq _ _).1 r
      refine Run.mono (u2 _ ?_) (by decide) (by decide)
      rw [Mf0 r]
      exact T1.wk (by decide) (by decide)
    · replace r := (h_eq _ _).2 r
      obtain ⟨owa, ka, wa, na, owb, kb, wb, nb, JA, JB, RA, RB, ya, yb, la, lb, dj⟩ := T1
      refine Run.pure hK (seg := [(116, .aload 14, 2), (118, .iload 7, 2)]) (by decide +kernel) (pc' := 120) (L' := #[.val (.int i0), .val (.int i1), .val (.int i2), .val (.int i3), .val (.int i4), .val (.int i5), .val (.int x1), .val (.int x2), .val (.int x3), .val (.int x4), .val (.int g1), .val (.int g2), .val (.int g3), .val (.int g4), .val (.ref aA), .val (.ref aB), .unset]) (S' := [(.int x2), (.ref aA)]) rfl ?_
      refine Run.virtual hK (index := 11) (y := (⟨"com/example/liveness/liveness/IntSet", "add", "(I)V"⟩ : MethodName)) (z := (⟨"com/example/liveness/liveness/IntSet", "add", "(I)V"⟩ : MethodName)) (C := "com/example/liveness/liveness/IntSet") (Wt := 0) (kc := 2) (ks := 8) (hw _ (List.mem_of_getElem? (i := 23) rfl)) (hw _ (List.mem_of_getElem? (i := 24) rfl)) (nfS (hw _ (List.mem_of_getElem? (i := 26) rfl))) (hw _ (List.mem_of_getElem? (i := 26) rfl)) (hw _ (List.mem_of_getElem? (i := 25) rfl)) (by decide) (a := aA) JA.exa (W' := []) (fun _ q => nomatch q) (Ctr.cal (c_add G aA x2 f1 n2 JA RA (by omega) ya) (hw _ (List.mem_of_getElem? (i := 27) rfl)) (hw _ (List.mem_of_getElem? (i := 3) rfl)) (by decide) (by decide)) rfl (argsL := [(.int x2)]) (rest := []) (lenOf pd_add rfl) rfl (Nat.le_of_ble_eq_true rfl) (by decide +kernel) (by decide) (by decide) (fun vc hc qc nc => ?_)
      obtain ⟨rfl, ow', ks', ws', n', J', R', y', l', K', g'⟩ := qc
      refine u2 _ ?_
      rw [Mf1 r]
      exact ⟨_, _, _, _, _, _, _, _, J', JB.keep K' (fun x hx z => dj x z hx) JA.ge, R', RB, y', yb, by omega, lb, fun x hx z => (g' x hx).elim (fun y => dj x y z) (fun y => absurd (JB.lt x z) (Nat.not_lt.mpr y))⟩
  intro f2 T2
  refine Run.pure hK (seg := [(123, .iload 12, 2)]) (by decide +kernel) (pc' := 125) (L' := #[.val (.int i0), .val (.int i1), .val (.int i2), .val (.int i3), .val (.int i4), .val (.int i5), .val (.int x1), .val (.int x2), .val (.int x3), .val (.int x4), .val (.int g1), .val (.int g2), .val (.int g3), .val (.int g4), .val (.ref aA), .val (.ref aB), .unset]) (S' := [(.int g3)]) rfl ?_
  suffices u3 : ∀ hh : Heap, TS Z hh aA aB (Mf g2 x2 (Mf g1 x1 [])) (Mf g3 x3 []) 2 1 → Run Z [] true K (fun v h' => v = some (.int 1)) [] hh 8 30 135 #[.val (.int i0), .val (.int i1), .val (.int i2), .val (.int i3), .val (.int i4), .val (.int i5), .val (.int x1), .val (.int x2), .val (.int x3), .val (.int x4), .val (.int g1), .val (.int g2), .val (.int g3), .val (.int g4), .val (.ref aA), .val (.ref aB), .unset] [] by
    refine Run.ifz hK (cd := .eq) (o := 10) (by decide +kernel) (by decide) (pc' := 135) rfl (fun r => ?_) (fun r => ?_)
    · replace r := (h_eq _ _).1 r
      refine Run.mono (u3 _ ?_) (by decide) (by decide)
      rw [Mf0 r]
      exact T2.wk (by decide) (by decide)
    · replace r := (h_eq _ _).2 r
      obtain ⟨owa, ka, wa, na, owb, kb, wb, nb, JA, JB, RA, RB, ya, yb, la, lb, dj⟩ := T2
      refine Run.pure hK (seg := [(128, .aload 15, 2), (130, .iload 8, 2)]) (by decide +kernel) (pc' := 132) (L' := #[.val (.int i0), .val (.int i1), .val (.int i2), .val (.int i3), .val (.int i4), .val (.int i5), .val (.int x1), .val (.int x2), .val (.int x3), .val (.int x4), .val (.int g1), .val (.int g2), .val (.int g3), .val (.int g4), .val (.ref aA), .val (.ref aB), .unset]) (S' := [(.int x3), (.ref aB)]) rfl ?_
      refine Run.virtual hK (index := 11) (y := (⟨"com/example/liveness/liveness/IntSet", "add", "(I)V"⟩ : MethodName)) (z := (⟨"com/example/liveness/liveness/IntSet", "add", "(I)V"⟩ : MethodName)) (C := "com/example/liveness/liveness/IntSet") (Wt := 0) (kc := 2) (ks := 8) (hw _ (List.mem_of_getElem? (i := 23) rfl)) (hw _ (List.mem_of_getElem? (i := 24) rfl)) (nfS (hw _ (List.mem_of_getElem? (i := 26) rfl))) (hw _ (List.mem_of_getElem? (i := 26) rfl)) (hw _ (List.mem_of_getElem? (i := 25) rfl)) (by decide) (a := aB) JB.exa (W' := []) (fun _ q => nomatch q) (Ctr.cal (c_add G aB x3 f2 n3 JB RB (by omega) yb) (hw _ (List.mem_of_getElem? (i := 27) rfl)) (hw _ (List.mem_of_getElem? (i := 3) rfl)) (by decide) (by decide)) rfl (argsL := [(.int x3)]) (rest := []) (lenOf pd_add rfl) rfl (Nat.le_of_ble_eq_true rfl) (by decide +kernel) (by decide) (by decide) (fun vc hc qc nc => ?_)
      obtain ⟨rfl, ow', ks', ws', n', J', R', y', l', K', g'⟩ := qc
      refine u3 _ ?_
      rw [Mf1 r]
      exact ⟨_, _, _, _, _, _, _, _, JA.keep K' dj JB.ge, J', RA, R', ya, y', la, by omega, fun x hx z => (g' x z).elim (fun y => dj x hx y) (fun y => absurd (JA.lt x hx) (Nat.not_lt.mpr y))⟩
  intro f3 T3
  refine Run.pure hK (seg := [(135, .iload 13, 2)]) (by decide +kernel) (pc' := 137) (L' := #[.val (.int i0), .val (.int i1), .val (.int i2), .val (.int i3), .val (.int i4), .val (.int i5), .val (.int x1), .val (.int x2), .val (.int x3), .val (.int x4), .val (.int g1), .val (.int g2), .val (.int g3), .val (.int g4), .val (.ref aA), .val (.ref aB), .unset]) (S' := [(.int g4)]) rfl ?_
  suffices u4 : ∀ hh : Heap, TS Z hh aA aB (Mf g2 x2 (Mf g1 x1 [])) (Mf g4 x4 (Mf g3 x3 [])) 2 2 → Run Z [] true K (fun v h' => v = some (.int 1)) [] hh 10 38 147 #[.val (.int i0), .val (.int i1), .val (.int i2), .val (.int i3), .val (.int i4), .val (.int i5), .val (.int x1), .val (.int x2), .val (.int x3), .val (.int x4), .val (.int g1), .val (.int g2), .val (.int g3), .val (.int g4), .val (.ref aA), .val (.ref aB), .unset] [] by
    refine Run.ifz hK (cd := .eq) (o := 10) (by decide +kernel) (by decide) (pc' := 147) rfl (fun r => ?_) (fun r => ?_)
    · replace r := (h_eq _ _).1 r
      refine Run.mono (u4 _ ?_) (by decide) (by decide)
      rw [Mf0 r]
      exact T3.wk (by decide) (by decide)
    · replace r := (h_eq _ _).2 r
      obtain ⟨owa, ka, wa, na, owb, kb, wb, nb, JA, JB, RA, RB, ya, yb, la, lb, dj⟩ := T3
      refine Run.pure hK (seg := [(140, .aload 15, 2), (142, .iload 9, 2)]) (by decide +kernel) (pc' := 144) (L' := #[.val (.int i0), .val (.int i1), .val (.int i2), .val (.int i3), .val (.int i4), .val (.int i5), .val (.int x1), .val (.int x2), .val (.int x3), .val (.int x4), .val (.int g1), .val (.int g2), .val (.int g3), .val (.int g4), .val (.ref aA), .val (.ref aB), .unset]) (S' := [(.int x4), (.ref aB)]) rfl ?_
      refine Run.virtual hK (index := 11) (y := (⟨"com/example/liveness/liveness/IntSet", "add", "(I)V"⟩ : MethodName)) (z := (⟨"com/example/liveness/liveness/IntSet", "add", "(I)V"⟩ : MethodName)) (C := "com/example/liveness/liveness/IntSet") (Wt := 0) (kc := 2) (ks := 8) (hw _ (List.mem_of_getElem? (i := 23) rfl)) (hw _ (List.mem_of_getElem? (i := 24) rfl)) (nfS (hw _ (List.mem_of_getElem? (i := 26) rfl))) (hw _ (List.mem_of_getElem? (i := 26) rfl)) (hw _ (List.mem_of_getElem? (i := 25) rfl)) (by decide) (a := aB) JB.exa (W' := []) (fun _ q => nomatch q) (Ctr.cal (c_add G aB x4 f3 n4 JB RB (by omega) yb) (hw _ (List.mem_of_getElem? (i := 27) rfl)) (hw _ (List.mem_of_getElem? (i := 3) rfl)) (by decide) (by decide)) rfl (argsL := [(.int x4)]) (rest := []) (lenOf pd_add rfl) rfl (Nat.le_of_ble_eq_true rfl) (by decide +kernel) (by decide) (by decide) (fun vc hc qc nc => ?_)
      obtain ⟨rfl, ow', ks', ws', n', J', R', y', l', K', g'⟩ := qc
      refine u4 _ ?_
      rw [Mf1 r]
      exact ⟨_, _, _, _, _, _, _, _, JA.keep K' dj JB.ge, J', RA, R', ya, y', la, by omega, fun x hx z => (g' x z).elim (fun y => dj x hx y) (fun y => absurd (JA.lt x hx) (Nat.not_lt.mpr y))⟩
  intro f4 T4
  obtain ⟨owa, ka, wa, na, owb, kb, wb, nb, JA, JB, RA, RB, ya, yb, la, lb, dj⟩ := T4
  have ne : aB ≠ aA := nAB.symm
  refine Run.pure hK (seg := [(147, .aload 14, 2), (149, .aload 15, 2)]) (by decide +kernel) (pc' := 151) (L' := #[.val (.int i0), .val (.int i1), .val (.int i2), .val (.int i3), .val (.int i4), .val (.int i5), .val (.int x1), .val (.int x2), .val (.int x3), .val (.int x4), .val (.int g1), .val (.int g2), .val (.int g3), .val (.int g4), .val (.ref aA), .val (.ref aB), .unset]) (S' := [(.ref aB), (.ref aA)]) rfl ?_
  refine Run.virtual hK (index := 15) (y := (⟨"com/example/liveness/liveness/IntSet", "addAll", "(Lcom/example/liveness/liveness/IntSet;)V"⟩ : MethodName)) (z := (⟨"com/example/liveness/liveness/IntSet", "addAll", "(Lcom/example/liveness/liveness/IntSet;)V"⟩ : MethodName)) (C := "com/example/liveness/liveness/IntSet") (Wt := 0) (kc := 2) (ks := 8) (hw _ (List.mem_of_getElem? (i := 58) rfl)) (hw _ (List.mem_of_getElem? (i := 59) rfl)) (nfS (hw _ (List.mem_of_getElem? (i := 61) rfl))) (hw _ (List.mem_of_getElem? (i := 61) rfl)) (hw _ (List.mem_of_getElem? (i := 60) rfl)) (by decide) (a := aA) JA.exa (W' := []) (fun _ q => nomatch q) (Ctr.cal (c_aa G aA aB f4 JA.at JA.iv JB.iv RA RB ya yb la lb) (hw _ (List.mem_of_getElem? (i := 62) rfl)) (hw _ (List.mem_of_getElem? (i := 3) rfl)) (by decide) (by decide)) rfl (argsL := [(.ref aB)]) (rest := []) (lenOf pd_aa rfl) rfl (Nat.le_of_ble_eq_true rfl) (by decide +kernel) (by decide) (by decide) (fun vm hm qm nm => ?_)
  obtain ⟨rfl, ks, ws, n, VA, RM, yn, KM⟩ := qm
  have VB := JB.iv.keep KM JA.exa (hw _ (List.mem_of_getElem? (i := 2) rfl)) ne
  rw [Mf_app, Mf_app, List.nil_append] at RM
  refine Run.pure hK (seg := [(154, .iload 10, 2)]) (by decide +kernel) (pc' := 156) (L' := #[.val (.int i0), .val (.int i1), .val (.int i2), .val (.int i3), .val (.int i4), .val (.int i5), .val (.int x1), .val (.int x2), .val (.int x3), .val (.int x4), .val (.int g1), .val (.int g2), .val (.int g3), .val (.int g4), .val (.ref aA), .val (.ref aB), .unset]) (S' := [(.int g1)]) rfl ?_
  suffices s5 : ∀ E : Int32, ((E = 1 ∧ i4 ∈ (Mf g4 x4 (Mf g3 x3 (Mf g2 x2 (Mf g1 x1 []))))) ∨ (E = 0 ∧ ¬ i4 ∈ (Mf g4 x4 (Mf g3 x3 (Mf g2 x2 (Mf g1 x1 [])))))) → Run Z [] true K (fun v h' => v = some (.int 1)) [] hm 12 46 207 #[.val (.int i0), .val (.int i1), .val (.int i2), .val (.int i3), .val (.int i4), .val (.int i5), .val (.int x1), .val (.int x2), .val (.int x3), .val (.int x4), .val (.int g1), .val (.int g2), .val (.int g3), .val (.int g4), .val (.ref aA), .val (.ref aB), .unset] [(.int E)] by
    suffices e1 : ¬ (¬ g1 = 0 ∧ i4 = x1) → Run Z [] true K (fun v h' => v = some (.int 1)) [] hm 12 46 166 #[.val (.int i0), .val (.int i1), .val (.int i2), .val (.int i3), .val (.int i4), .val (.int i5), .val (.int x1), .val (.int x2), .val (.int x3), .val (.int x4), .val (.int g1), .val (.int g2), .val (.int g3), .val (.int g4), .val (.ref aA), .val (.ref aB), .unset] [] by
      refine Run.ifz hK (cd := .eq) (o := 10) (by decide +kernel) (by decide) (pc' := 166) rfl (fun r => ?_) (fun r => ?_)
      · replace r := (h_eq _ _).1 r
        exact e1 (fun z => z.1 r)
      · replace r := (h_eq _ _).2 r
        refine Run.pure hK (seg := [(159, .iload 4, 2), (161, .iload 6, 2)]) (by decide +kernel) (pc' := 163) (L' := #[.val (.int i0), .val (.int i1), .val (.int i2), .val (.int i3), .val (.int i4), .val (.int i5), .val (.int x1), .val (.int x2), .val (.int x3), .val (.int x4), .val (.int g1), .val (.int g2), .val (.int g3), .val (.int g4), .val (.ref aA), .val (.ref aB), .unset]) (S' := [(.int x1), (.int i4)]) rfl ?_
        refine Run.icmp hK (cd := .eq) (o := 39) (by decide +kernel) (by decide) (pc' := 202) rfl (fun r2 => ?_) (fun r2 => ?_)
        · replace r2 := (h_eq _ _).1 r2
          refine Run.pure hK (seg := [(202, .iconst 1, 1), (203, .goto 4, 3)]) (by decide +kernel) (pc' := 207) (L' := #[.val (.int i0), .val (.int i1), .val (.int i2), .val (.int i3), .val (.int i4), .val (.int i5), .val (.int x1), .val (.int x2), .val (.int x3), .val (.int x4), .val (.int g1), .val (.int g2), .val (.int g3), .val (.int g4), .val (.ref aA), .val (.ref aB), .unset]) (S' := [(.int (1 : Int32))]) rfl ?_
          exact s5 1 (Or.inl ⟨rfl, mem_Mf.mpr (Or.inr (mem_Mf.mpr (Or.inr (mem_Mf.mpr (Or.inr (mem_Mf.mpr (Or.inl ⟨r, r2⟩)))))))⟩)
        · replace r2 := (h_eq _ _).2 r2
          exact e1 (fun z => r2 z.2)
    intro m1
    refine Run.pure hK (seg := [(166, .iload 11, 2)]) (by decide +kernel) (pc' := 168) (L' := #[.val (.int i0), .val (.int i1), .val (.int i2), .val (.int i3), .val (.int i4), .val (.int i5), .val (.int x1), .val (.int x2), .val (.int x3), .val (.int x4), .val (.int g1), .val (.int g2), .val (.int g3), .val (.int g4), .val (.ref aA), .val (.ref aB), .unset]) (S' := [(.int g2)]) rfl ?_
    suffices e2 : ¬ (¬ g2 = 0 ∧ i4 = x2) → Run Z [] true K (fun v h' => v = some (.int 1)) [] hm 12 46 178 #[.val (.int i0), .val (.int i1), .val (.int i2), .val (.int i3), .val (.int i4), .val (.int i5), .val (.int x1), .val (.int x2), .val (.int x3), .val (.int x4), .val (.int g1), .val (.int g2), .val (.int g3), .val (.int g4), .val (.ref aA), .val (.ref aB), .unset] [] by
      refine Run.ifz hK (cd := .eq) (o := 10) (by decide +kernel) (by decide) (pc' := 178) rfl (fun r => ?_) (fun r => ?_)
      · replace r := (h_eq _ _).1 r
        exact e2 (fun z => z.1 r)
      · replace r := (h_eq _ _).2 r
        refine Run.pure hK (seg := [(171, .iload 4, 2), (173, .iload 7, 2)]) (by decide +kernel) (pc' := 175) (L' := #[.val (.int i0), .val (.int i1), .val (.int i2), .val (.int i3), .val (.int i4), .val (.int i5), .val (.int x1), .val (.int x2), .val (.int x3), .val (.int x4), .val (.int g1), .val (.int g2), .val (.int g3), .val (.int g4), .val (.ref aA), .val (.ref aB), .unset]) (S' := [(.int x2), (.int i4)]) rfl ?_
        refine Run.icmp hK (cd := .eq) (o := 27) (by decide +kernel) (by decide) (pc' := 202) rfl (fun r2 => ?_) (fun r2 => ?_)
        · replace r2 := (h_eq _ _).1 r2
          refine Run.pure hK (seg := [(202, .iconst 1, 1), (203, .goto 4, 3)]) (by decide +kernel) (pc' := 207) (L' := #[.val (.int i0), .val (.int i1), .val (.int i2), .val (.int i3), .val (.int i4), .val (.int i5), .val (.int x1), .val (.int x2), .val (.int x3), .val (.int x4), .val (.int g1), .val (.int g2), .val (.int g3), .val (.int g4), .val (.ref aA), .val (.ref aB), .unset]) (S' := [(.int (1 : Int32))]) rfl ?_
          exact s5 1 (Or.inl ⟨rfl, mem_Mf.mpr (Or.inr (mem_Mf.mpr (Or.inr (mem_Mf.mpr (Or.inl ⟨r, r2⟩)))))⟩)
        · replace r2 := (h_eq _ _).2 r2
          exact e2 (fun z => r2 z.2)
    intro m2
    refine Run.pure hK (seg := [(178, .iload 12, 2)]) (by decide +kernel) (pc' := 180) (L' := #[.val (.int i0), .val (.int i1), .val (.int i2), .val (.int i3), .val (.int i4), .val (.int i5), .val (.int x1), .val (.int x2), .val (.int x3), .val (.int x4), .val (.int g1), .val (.int g2), .val (.int g3), .val (.int g4), .val (.ref aA), .val (.ref aB), .unset]) (S' := [(.int g3)]) rfl ?_
    suffices e3 : ¬ (¬ g3 = 0 ∧ i4 = x3) → Run Z [] true K (fun v h' => v = some (.int 1)) [] hm 12 46 190 #[.val (.int i0), .val (.int i1), .val (.int i2), .val (.int i3), .val (.int i4), .val (.int i5), .val (.int x1), .val (.int x2), .val (.int x3), .val (.int x4), .val (.int g1), .val (.int g2), .val (.int g3), .val (.int g4), .val (.ref aA), .val (.ref aB), .unset] [] by
      refine Run.ifz hK (cd := .eq) (o := 10) (by decide +kernel) (by decide) (pc' := 190) rfl (fun r => ?_) (fun r => ?_)
      · replace r := (h_eq _ _).1 r
        exact e3 (fun z => z.1 r)
      · replace r := (h_eq _ _).2 r
        refine Run.pure hK (seg := [(183, .iload 4, 2), (185, .iload 8, 2)]) (by decide +kernel) (pc' := 187) (L' := #[.val (.int i0), .val (.int i1), .val (.int i2), .val (.int i3), .val (.int i4), .val (.int i5), .val (.int x1), .val (.int x2), .val (.int x3), .val (.int x4), .val (.int g1), .val (.int g2), .val (.int g3), .val (.int g4), .val (.ref aA), .val (.ref aB), .unset]) (S' := [(.int x3), (.int i4)]) rfl ?_
        refine Run.icmp hK (cd := .eq) (o := 15) (by decide +kernel) (by decide) (pc' := 202) rfl (fun r2 => ?_) (fun r2 => ?_)
        · replace r2 := (h_eq _ _).1 r2
          refine Run.pure hK (seg := [(202, .iconst 1, 1), (203, .goto 4, 3)]) (by decide +kernel) (pc' := 207) (L' := #[.val (.int i0), .val (.int i1), .val (.int i2), .val (.int i3), .val (.int i4), .val (.int i5), .val (.int x1), .val (.int x2), .val (.int x3), .val (.int x4), .val (.int g1), .val (.int g2), .val (.int g3), .val (.int g4), .val (.ref aA), .val (.ref aB), .unset]) (S' := [(.int (1 : Int32))]) rfl ?_
          exact s5 1 (Or.inl ⟨rfl, mem_Mf.mpr (Or.inr (mem_Mf.mpr (Or.inl ⟨r, r2⟩)))⟩)
        · replace r2 := (h_eq _ _).2 r2
          exact e3 (fun z => r2 z.2)
    intro m3
    refine Run.pure hK (seg := [(190, .iload 13, 2)]) (by decide +kernel) (pc' := 192) (L' := #[.val (.int i0), .val (.int i1), .val (.int i2), .val (.int i3), .val (.int i4), .val (.int i5), .val (.int x1), .val (.int x2), .val (.int x3), .val (.int x4), .val (.int g1), .val (.int g2), .val (.int g3), .val (.int g4), .val (.ref aA), .val (.ref aB), .unset]) (S' := [(.int g4)]) rfl ?_
    suffices e4 : ¬ (¬ g4 = 0 ∧ i4 = x4) → Run Z [] true K (fun v h' => v = some (.int 1)) [] hm 12 46 206 #[.val (.int i0), .val (.int i1), .val (.int i2), .val (.int i3), .val (.int i4), .val (.int i5), .val (.int x1), .val (.int x2), .val (.int x3), .val (.int x4), .val (.int g1), .val (.int g2), .val (.int g3), .val (.int g4), .val (.ref aA), .val (.ref aB), .unset] [] by
      refine Run.ifz hK (cd := .eq) (o := 14) (by decide +kernel) (by decide) (pc' := 206) rfl (fun r => ?_) (fun r => ?_)
      · replace r := (h_eq _ _).1 r
        exact e4 (fun z => z.1 r)
      · replace r := (h_eq _ _).2 r
        refine Run.pure hK (seg := [(195, .iload 4, 2), (197, .iload 9, 2)]) (by decide +kernel) (pc' := 199) (L' := #[.val (.int i0), .val (.int i1), .val (.int i2), .val (.int i3), .val (.int i4), .val (.int i5), .val (.int x1), .val (.int x2), .val (.int x3), .val (.int x4), .val (.int g1), .val (.int g2), .val (.int g3), .val (.int g4), .val (.ref aA), .val (.ref aB), .unset]) (S' := [(.int x4), (.int i4)]) rfl ?_
        refine Run.icmp hK (cd := .ne) (o := 7) (by decide +kernel) (by decide) (pc' := 206) rfl (fun r2 => ?_) (fun r2 => ?_)
        · replace r2 := (h_ne _ _).1 r2
          exact e4 (fun z => r2 z.2)
        · replace r2 := (h_ne _ _).2 r2
          refine Run.pure hK (seg := [(202, .iconst 1, 1), (203, .goto 4, 3)]) (by decide +kernel) (pc' := 207) (L' := #[.val (.int i0), .val (.int i1), .val (.int i2), .val (.int i3), .val (.int i4), .val (.int i5), .val (.int x1), .val (.int x2), .val (.int x3), .val (.int x4), .val (.int g1), .val (.int g2), .val (.int g3), .val (.int g4), .val (.ref aA), .val (.ref aB), .unset]) (S' := [(.int (1 : Int32))]) rfl ?_
          exact s5 1 (Or.inl ⟨rfl, mem_Mf.mpr (Or.inl ⟨r, r2⟩)⟩)
    intro m4
    refine Run.pure hK (seg := [(206, .iconst 0, 1)]) (by decide +kernel) (pc' := 207) (L' := #[.val (.int i0), .val (.int i1), .val (.int i2), .val (.int i3), .val (.int i4), .val (.int i5), .val (.int x1), .val (.int x2), .val (.int x3), .val (.int x4), .val (.int g1), .val (.int g2), .val (.int g3), .val (.int g4), .val (.ref aA), .val (.ref aB), .unset]) (S' := [(.int (0 : Int32))]) rfl ?_
    refine s5 0 (Or.inr ⟨rfl, ?_⟩)
    simp only [mem_Mf, List.not_mem_nil, or_false, not_or]
    exact ⟨m4, m3, m2, m1⟩
  intro E hE
  refine Run.pure hK (seg := [(207, .istore 16, 2), (209, .aload 14, 2), (211, .iload 4, 2)]) (by decide +kernel) (pc' := 213) (L' := #[.val (.int i0), .val (.int i1), .val (.int i2), .val (.int i3), .val (.int i4), .val (.int i5), .val (.int x1), .val (.int x2), .val (.int x3), .val (.int x4), .val (.int g1), .val (.int g2), .val (.int g3), .val (.int g4), .val (.ref aA), .val (.ref aB), .val (.int E)]) (S' := [(.int i4), (.ref aA)]) rfl ?_
  refine Run.virtual hK (index := 19) (y := (⟨"com/example/liveness/liveness/IntSet", "contains", "(I)Z"⟩ : MethodName)) (z := (⟨"com/example/liveness/liveness/IntSet", "contains", "(I)Z"⟩ : MethodName)) (C := "com/example/liveness/liveness/IntSet") (Wt := 0) (kc := 0) (ks := 0) (hw _ (List.mem_of_getElem? (i := 63) rfl)) (hw _ (List.mem_of_getElem? (i := 64) rfl)) (nfS (hw _ (List.mem_of_getElem? (i := 66) rfl))) (hw _ (List.mem_of_getElem? (i := 66) rfl)) (hw _ (List.mem_of_getElem? (i := 65) rfl)) (by decide) (a := aA) VA.exa (W' := []) (fun _ q => nomatch q) (Ctr.cal (c_co G aA i4 hm VA RM yn) (hw _ (List.mem_of_getElem? (i := 67) rfl)) (hw _ (List.mem_of_getElem? (i := 3) rfl)) (by decide) (by decide)) rfl (argsL := [(.int i4)]) (rest := []) (lenOf pd_co rfl) rfl (Nat.le_of_ble_eq_true rfl) (by decide +kernel) (by decide) (by decide) (fun vd hd qd nd => ?_)
  obtain ⟨rfl, r, rfl, hr⟩ := qd
  have hre : r = E := by
    rcases hr with ⟨h1, h2⟩ | ⟨h1, h2⟩ <;> rcases hE with ⟨h3, h4⟩ | ⟨h3, h4⟩
    · rw [h1, h3]
    · exact absurd h2 h4
    · exact absurd h4 h2
    · rw [h1, h3]
  refine Run.pure hK (seg := [(216, .iload 16, 2)]) (by decide +kernel) (pc' := 218) (L' := #[.val (.int i0), .val (.int i1), .val (.int i2), .val (.int i3), .val (.int i4), .val (.int i5), .val (.int x1), .val (.int x2), .val (.int x3), .val (.int x4), .val (.int g1), .val (.int g2), .val (.int g3), .val (.int g4), .val (.ref aA), .val (.ref aB), .val (.int E)]) (S' := [(.int E), (.int r)]) rfl ?_
  refine Run.icmp hK (cd := .eq) (o := 5) (by decide +kernel) (by decide) (pc' := 223) rfl (fun _ => ?_) (fun q => by replace q := (h_eq _ _).2 q; exact absurd hre q)
  refine Run.pure hK (seg := [(223, .aload 14, 2)]) (by decide +kernel) (pc' := 225) (L' := #[.val (.int i0), .val (.int i1), .val (.int i2), .val (.int i3), .val (.int i4), .val (.int i5), .val (.int x1), .val (.int x2), .val (.int x3), .val (.int x4), .val (.int g1), .val (.int g2), .val (.int g3), .val (.int g4), .val (.ref aA), .val (.ref aB), .val (.int E)]) (S' := [(.ref aA)]) rfl ?_
  refine Run.virtual hK (index := 23) (y := (⟨"com/example/liveness/liveness/IntSet", "size", "()I"⟩ : MethodName)) (z := (⟨"com/example/liveness/liveness/IntSet", "size", "()I"⟩ : MethodName)) (C := "com/example/liveness/liveness/IntSet") (Wt := 0) (kc := 0) (ks := 0) (hw _ (List.mem_of_getElem? (i := 68) rfl)) (hw _ (List.mem_of_getElem? (i := 69) rfl)) (nfS (hw _ (List.mem_of_getElem? (i := 71) rfl))) (hw _ (List.mem_of_getElem? (i := 71) rfl)) (hw _ (List.mem_of_getElem? (i := 70) rfl)) (by decide) (a := aA) VA.exa (W' := []) (fun _ q => nomatch q) (Ctr.cal (c_sz G aA hd VA RM.2.1 yn) (hw _ (List.mem_of_getElem? (i := 72) rfl)) (hw _ (List.mem_of_getElem? (i := 3) rfl)) (by decide) (by decide)) rfl (argsL := []) (rest := []) (lenOf pd_sz rfl) rfl (Nat.le_of_ble_eq_true rfl) (by decide +kernel) (by decide) (by decide) (fun vs1 hs1 qs1 ns1 => ?_)
  obtain ⟨rfl, rfl⟩ := qs1
  rw [Rep.size RM (Mf_nn n4 (Mf_nn n3 (Mf_nn n2 (Mf_nn n1 (fun _ q => nomatch q)))))]
  refine Run.pure hK (seg := [(228, .iload 10, 2), (230, .iload 6, 2), (232, .iload 11, 2), (234, .iload 7, 2), (236, .iload 12, 2), (238, .iload 8, 2), (240, .iload 13, 2), (242, .iload 9, 2)]) (by decide +kernel) (pc' := 244) (L' := #[.val (.int i0), .val (.int i1), .val (.int i2), .val (.int i3), .val (.int i4), .val (.int i5), .val (.int x1), .val (.int x2), .val (.int x3), .val (.int x4), .val (.int g1), .val (.int g2), .val (.int g3), .val (.int g4), .val (.ref aA), .val (.ref aB), .val (.int E)]) (S' := [(.int x4), (.int g4), (.int x3), (.int g3), (.int x2), (.int g2), (.int x1), (.int g1), (.int (Int32.ofNat (dd (Mf g4 x4 (Mf g3 x3 (Mf g2 x2 (Mf g1 x1 [])))))))]) rfl ?_
  refine Run.static hK (index := 27) (y := (⟨"com/example/liveness/liveness/IntSetAddAllPinLaw", "distinct", "(ZIZIZIZI)I"⟩ : MethodName)) (Wt := 1) (kc := 0) (ks := 0) (hw _ (List.mem_of_getElem? (i := 80) rfl)) (hw _ (List.mem_of_getElem? (i := 81) rfl)) (hw _ (List.mem_of_getElem? (i := 82) rfl)) (hw _ (List.mem_of_getElem? (i := 83) rfl)) (by decide) (W' := []) (fun _ q => nomatch q) (Ctr.cal (c_dd G g1 x1 g2 x2 g3 x3 g4 x4 hs1) (hw _ (List.mem_of_getElem? (i := 83) rfl)) (hw _ (List.mem_of_getElem? (i := 82) rfl)) (by decide) (by decide)) rfl (argsL := [(.int g1), (.int x1), (.int g2), (.int x2), (.int g3), (.int x3), (.int g4), (.int x4)]) (rest := [(.int (Int32.ofNat (dd (Mf g4 x4 (Mf g3 x3 (Mf g2 x2 (Mf g1 x1 [])))))))]) (lenOf pd_dd rfl) rfl (Nat.le_of_ble_eq_true rfl) (by decide +kernel) (by decide) (by decide) (fun vd1 hd1 qd1 nd1 => ?_)
  obtain ⟨rfl, rfl⟩ := qd1
  refine Run.icmp hK (cd := .eq) (o := 5) (by decide +kernel) (by decide) (pc' := 252) rfl (fun _ => ?_) (fun q => by replace q := (h_eq _ _).2 q; exact absurd rfl q)
  refine Run.pure hK (seg := [(252, .aload 15, 2)]) (by decide +kernel) (pc' := 254) (L' := #[.val (.int i0), .val (.int i1), .val (.int i2), .val (.int i3), .val (.int i4), .val (.int i5), .val (.int x1), .val (.int x2), .val (.int x3), .val (.int x4), .val (.int g1), .val (.int g2), .val (.int g3), .val (.int g4), .val (.ref aA), .val (.ref aB), .val (.int E)]) (S' := [(.ref aB)]) rfl ?_
  refine Run.virtual hK (index := 23) (y := (⟨"com/example/liveness/liveness/IntSet", "size", "()I"⟩ : MethodName)) (z := (⟨"com/example/liveness/liveness/IntSet", "size", "()I"⟩ : MethodName)) (C := "com/example/liveness/liveness/IntSet") (Wt := 0) (kc := 0) (ks := 0) (hw _ (List.mem_of_getElem? (i := 68) rfl)) (hw _ (List.mem_of_getElem? (i := 69) rfl)) (nfS (hw _ (List.mem_of_getElem? (i := 71) rfl))) (hw _ (List.mem_of_getElem? (i := 71) rfl)) (hw _ (List.mem_of_getElem? (i := 70) rfl)) (by decide) (a := aB) VB.exa (W' := []) (fun _ q => nomatch q) (Ctr.cal (c_sz G aB hd1 VB RB.2.1 yb) (hw _ (List.mem_of_getElem? (i := 72) rfl)) (hw _ (List.mem_of_getElem? (i := 3) rfl)) (by decide) (by decide)) rfl (argsL := []) (rest := []) (lenOf pd_sz rfl) rfl (Nat.le_of_ble_eq_true rfl) (by decide +kernel) (by decide) (by decide) (fun vs2 hs2 qs2 ns2 => ?_)
  obtain ⟨rfl, rfl⟩ := qs2
  rw [Rep.size RB (Mf_nn n4 (Mf_nn n3 (fun _ q => nomatch q)))]
  refine Run.pure hK (seg := [(257, .iconst 0, 1), (258, .iconst 0, 1), (259, .iconst 0, 1), (260, .iconst 0, 1), (261, .iload 12, 2), (263, .iload 8, 2), (265, .iload 13, 2), (267, .iload 9, 2)]) (by decide +kernel) (pc' := 269) (L' := #[.val (.int i0), .val (.int i1), .val (.int i2), .val (.int i3), .val (.int i4), .val (.int i5), .val (.int x1), .val (.int x2), .val (.int x3), .val (.int x4), .val (.int g1), .val (.int g2), .val (.int g3), .val (.int g4), .val (.ref aA), .val (.ref aB), .val (.int E)]) (S' := [(.int x4), (.int g4), (.int x3), (.int g3), (.int (0 : Int32)), (.int (0 : Int32)), (.int (0 : Int32)), (.int (0 : Int32)), (.int (Int32.ofNat (dd (Mf g4 x4 (Mf g3 x3 [])))))]) rfl ?_
  refine Run.static hK (index := 27) (y := (⟨"com/example/liveness/liveness/IntSetAddAllPinLaw", "distinct", "(ZIZIZIZI)I"⟩ : MethodName)) (Wt := 1) (kc := 0) (ks := 0) (hw _ (List.mem_of_getElem? (i := 80) rfl)) (hw _ (List.mem_of_getElem? (i := 81) rfl)) (hw _ (List.mem_of_getElem? (i := 82) rfl)) (hw _ (List.mem_of_getElem? (i := 83) rfl)) (by decide) (W' := []) (fun _ q => nomatch q) (Ctr.cal (c_dd G 0 0 0 0 g3 x3 g4 x4 hs2) (hw _ (List.mem_of_getElem? (i := 83) rfl)) (hw _ (List.mem_of_getElem? (i := 82) rfl)) (by decide) (by decide)) rfl (argsL := [(.int (0 : Int32)), (.int (0 : Int32)), (.int (0 : Int32)), (.int (0 : Int32)), (.int g3), (.int x3), (.int g4), (.int x4)]) (rest := [(.int (Int32.ofNat (dd (Mf g4 x4 (Mf g3 x3 [])))))]) (lenOf pd_dd rfl) rfl (Nat.le_of_ble_eq_true rfl) (by decide +kernel) (by decide) (by decide) (fun vd2 hd2 qd2 nd2 => ?_)
  obtain ⟨rfl, rfl⟩ := qd2
  rw [Mf0 (rfl : (0 : Int32) = 0), Mf0 (rfl : (0 : Int32) = 0)]
  refine Run.icmp hK (cd := .ne) (o := 7) (by decide +kernel) (by decide) (pc' := 279) rfl (fun q => by replace q := (h_ne _ _).1 q; exact absurd rfl q) (fun _ => ?_)
  refine Run.pure hK (seg := [(275, .iconst 1, 1), (276, .goto 4, 3)]) (by decide +kernel) (pc' := 280) (L' := #[.val (.int i0), .val (.int i1), .val (.int i2), .val (.int i3), .val (.int i4), .val (.int i5), .val (.int x1), .val (.int x2), .val (.int x3), .val (.int x4), .val (.int g1), .val (.int g2), .val (.int g3), .val (.int g4), .val (.ref aA), .val (.ref aB), .val (.int E)]) (S' := [(.int (1 : Int32))]) rfl ?_
  exact Run.retw hK (i := .ireturn) rfl (Or.inl ⟨rfl, Or.inr (Or.inl rfl), _, rfl⟩) (by decide +kernel) (by decide) (by decide) rfl
set_option maxRecDepth 65536 in
set_option maxHeartbeats 40000000 in
theorem comes_1 {Post : Tables → Env → Array Value → State → Outcome → State → Prop} (hpost : ∀ tb e args s v u, (limb_1_1.after args s (.returned v) u = true ∧ limb_1_2.after args s (.returned v) u = true ∧ True) → FrameEnd s (.returned v) u (Jvm.fieldLocs frame_1_writes args s ++ Jvm.arrayLocs frame_1_arrays args s ++ Jvm.staticLocs frame_1_statics s) 24 128 → Post tb e args s (.returned v) u) :
    ArmFor flags0 classFile x code maxLocals ret World_1 tables_1 room_1 Calls_1 rest_1 Pre_1 Post := by
  intro l hfl _ _ p e ha hc hk s m args below hf hA hF happ hP
  obtain ⟨hcalls, hrest, hpre⟩ := hP
  obtain ⟨-, -, -, hnamed, -, -, -, hat⟩ := (Spec.applies_iff hf).mp happ
  obtain ⟨hg, hn⟩ := and_e (Cond.before_iff.mp (show (Jvm.Cond.and given_1 narrow_1).before args s = true from hpre))
  obtain ⟨k0, r0⟩ := and_e hg
  obtain ⟨k1, r1⟩ := and_e r0
  obtain ⟨k2, r2⟩ := and_e r1
  obtain ⟨k3, r3⟩ := and_e r2
  obtain ⟨k4, r4⟩ := and_e r3
  obtain ⟨k5, r5⟩ := and_e r4
  obtain ⟨w0, w1, w2, w3, w4, w5, rfl⟩ : ∃ w0 w1 w2 w3 w4 w5 : Value, args = #[w0, w1, w2, w3, w4, w5] := by
    have hs : args.size = 6 := by simpa [Cond.value, given_1] using k0
    obtain ⟨L⟩ := args
    match L, hs with
    | [w0, w1, w2, w3, w4, w5], _ => exact ⟨w0, w1, w2, w3, w4, w5, rfl⟩
  have hw := fun d (hd : d ∈ tables_1) => atoms_spec (ws := Jvm.Cond.code x code maxLocals ret :: tables_1) hat d (List.mem_cons_of_mem _ hd)
  obtain ⟨i0, f0⟩ := is_v k1
  obtain rfl : w0 = (.int i0) := Option.some.inj f0
  obtain ⟨i1, f1⟩ := is_v k2
  obtain rfl : w1 = (.int i1) := Option.some.inj f1
  obtain ⟨i2, f2⟩ := is_v k3
  obtain rfl : w2 = (.int i2) := Option.some.inj f2
  obtain ⟨i3, f3⟩ := is_v k4
  obtain rfl : w3 = (.int i3) := Option.some.inj f3
  obtain ⟨i4, f4⟩ := is_v k5
  obtain rfl : w4 = (.int i4) := Option.some.inj f4
  obtain ⟨i5, f5⟩ := is_v r5
  obtain rfl : w5 = (.int i5) := Option.some.inj f5
  obtain ⟨y1, z1⟩ := and_e hn
  obtain ⟨y2, z2⟩ := and_e z1
  obtain ⟨y3, z3⟩ := and_e z2
  obtain ⟨y4, z4⟩ := and_e z3
  obtain ⟨y5, y6⟩ := and_e z4
  obtain ⟨N1, eN1⟩ := arr_v y1
  have S1 : Sta s s.heap "com/example/liveness/liveness/IntSet" "NO_KEYS" "[I" (.ref N1) := Sta.start eN1 (Or.inr ⟨(hw _ (List.mem_of_getElem? (i := 3) rfl)), (hw _ (List.mem_of_getElem? (i := 8) rfl))⟩)
  obtain ⟨cc1, Ac1⟩ := Arr.start eN1 y1
  have el1 := eqv_i (Term.int_eval (0)) y3
  obtain ⟨u1, v1, p1, q1, r1⟩ := Term.length_spec el1
  cases eN1.symm.trans p1
  cases (Ac1.fin (Vm.Alike.refl _)).symm.trans q1
  have lt1 := Jvm.Free.SBG.length_lt eN1 q1 el1
  have sz1 : cc1.slots.size = 0 := by injection r1 with r1; have z := len_toInt lt1; rw [← r1] at z; have z0 : (0 : Int32).toInt = 0 := rfl; omega
  have A1 : Arv s s.heap N1 cc1.cls .int 0 [] (.int 0) := ⟨cc1, Ac1, rfl, by rw [sz1]; rfl, by decide, (fun i hi => by rw [sz1] at hi; cases hi), (fun i hi => by rw [sz1] at hi; cases hi)⟩
  obtain ⟨N2, eN2⟩ := arr_v y4
  have S2 : Sta s s.heap "com/example/liveness/liveness/IntSet" "NO_WORDS" "[J" (.ref N2) := Sta.start eN2 (Or.inr ⟨(hw _ (List.mem_of_getElem? (i := 3) rfl)), (hw _ (List.mem_of_getElem? (i := 10) rfl))⟩)
  obtain ⟨cc2, Ac2⟩ := Arr.start eN2 y4
  have el2 := eqv_i (Term.int_eval (0)) y6
  obtain ⟨u2, v2, p2, q2, r2⟩ := Term.length_spec el2
  cases eN2.symm.trans p2
  cases (Ac2.fin (Vm.Alike.refl _)).symm.trans q2
  have lt2 := Jvm.Free.SBG.length_lt eN2 q2 el2
  have sz2 : cc2.slots.size = 0 := by injection r2 with r2; have z := len_toInt lt2; rw [← r2] at z; have z0 : (0 : Int32).toInt = 0 := rfl; omega
  have A2 : Arv s s.heap N2 cc2.cls .long 0 [] (.long 0) := ⟨cc2, Ac2, rfl, by rw [sz2]; rfl, by decide, (fun i hi => by rw [sz2] at hi; cases hi), (fun i hi => by rw [sz2] at hi; cases hi)⟩
  obtain ⟨n, o, g1, g2, g3, v, Lo, rfl, hv, hF', -, hq, hwn, -⟩ := c_law (⟨hw, N1, N2, _, _, S1, A1, S2, A2⟩ : Env1 s _) i0 i1 i2 i3 i4 i5 s.heap p e ha hc hk s m _ below hf ((Spec.applies_iff_loose hf).mp happ).1 ⟨rfl, State.Warmed39.refl s, rfl, (fun _ q => nomatch q), fun _ q => (nomatch q), Nat.le_refl _, fun _ _ q => q⟩ trivial
  obtain rfl : v = some (.int 1) := hv
  refine ⟨n, _, g1, g2, g3, hpost _ _ _ _ _ _ ⟨Cond.after_iff.mpr rfl, Cond.after_iff.mpr (eq_i res_at (Term.int_eval (1)) rfl), trivial⟩ ⟨hq.1, hwn rfl, (hq.2.2.2.sift fun y hy => Or.inr (hF' y hy)).mono (by decide) (by decide)⟩⟩
theorem main_1_1 : Claimed_1_1 := comes_1 fun _ _ _ _ _ _ h hF => ⟨h.1, hF⟩
theorem main_1_2 : Claimed_1_2 := comes_1 fun _ _ _ _ _ _ h hF => ⟨h.2.1, hF⟩
end Jvm.Pilot.@@N@@
namespace Jvm.Pilot.@@N@@
open Jvm Jvm.ClassFile Sem Op Lib Jvm.Free Jvm.Stand Jvm.Pilot.@@N@@.Jvm.D
/-! MADE BY PROGRAM (witnessworld.py) out of the Statement's table words and the real class files: 19 classes; the members and pool entries that the words name. The judged class is class 1, her method 2. -/
namespace start1
open Jvm.ClassFile
def u (s : String) : CpInfo := .utf8 (stringToUtf16 s)
/-- a pool by its gaps: so many unusable entries, then the entry; so many at the end -/
def gap : Nat → List CpInfo → List CpInfo
  | 0, r => r
  | n + 1, r => .unusable :: gap n r
def poolList (es : List (Nat × CpInfo)) (last : Nat) : List CpInfo := es.foldr (fun e r => gap e.1 (e.2 :: r)) (gap last [])
def pool (es : List (Nat × CpInfo)) (last : Nat) : Array CpInfo := ⟨poolList es last⟩
def fileOf (pool : Array CpInfo) (this : Nat) (attrs : Array Attribute := #[]) (ms : Array MethodInfo := #[]) (fl : Nat := 33) (sup : Nat := 0) (ifs : Array Nat := #[]) (fds : Array FieldInfo := #[]) : ClassFile where
  minorVersion := 0
  majorVersion := 65
  constantPool := pool
  accessFlags := fl
  thisClass := this
  superClass := sup
  interfaces := ifs
  fields := fds
  methods := ms
  attributes := attrs
def plain (name : String) (sup : Option ClassId) : Class where
  name := name
  kind := .ordinary
  loader := none
  accessFlags := 33
  super := sup
  interfaces := #[]
  cf := none
  fields := #[]
  methods := #[]
  instanceTypes := #[]
  staticTypes := #[]
  resolved := #[]
  callSites := []
  init := .initialized
  statics := none
  mirror := none

def pool0 : Array CpInfo := pool [(5, u "<init>"), (0, u "()V"), (1, .class_ 10), (1, u "java/lang/Object")] 113

def k0c0 : Code := { maxStack := 0, maxLocals := 1, code := object_method_1_code, exceptionTable := #[], attributes := #[] }
def k0m0 : Method := { name := "<init>", desc := "()V", sig := { parameters := [], returnType := none }, accessFlags := 1, code := some k0c0 }
/-- java/lang/Object -/
def k0 : Class := { plain "java/lang/Object" none with
  accessFlags := 33
  interfaces := #[]
  cf := some (fileOf pool0 8 #[] #[{ accessFlags := 1, nameIndex := 5, descriptorIndex := 6, attributes := #[] }] 33 0 #[] #[])
  fields := #[]
  methods := #[k0m0]
  instanceTypes := #[]
  staticTypes := #[]
  resolved := Array.replicate 124 none
  statics := none }

def pool1 : Array CpInfo := pool [(2, .class_ 4), (0, .nameAndType 5 6), (0, u "java/lang/Object"), (0, u "<init>"), (0, u "()V"), (0, .integer 2147483647), (0, .class_ 9), (0, u "com/example/liveness/liveness/IntSet"), (0, .methodref 8 3), (0, .methodref 8 12), (0, .nameAndType 13 14), (0, u "add"), (0, u "(I)V"), (0, .methodref 8 16), (0, .nameAndType 17 18), (0, u "addAll"), (0, u "(Lcom/example/liveness/liveness/IntSet;)V"), (0, .methodref 8 20), (0, .nameAndType 21 22), (0, u "contains"), (0, u "(I)Z"), (0, .methodref 8 24), (0, .nameAndType 25 26), (0, u "size"), (0, u "()I"), (0, .methodref 28 29), (0, .class_ 30), (0, .nameAndType 31 32), (0, u "com/example/liveness/liveness/IntSetAddAllPinLaw"), (0, u "distinct"), (0, u "(ZIZIZIZI)I"), (3, u "law"), (0, u "(IIIIII)Z")] 2

def k1m0 : Method := { name := "<init>", desc := "()V", sig := { parameters := [], returnType := none }, accessFlags := 1, code := none }
def k1c1 : Code := { maxStack := 2, maxLocals := 9, code := method_2_code, exceptionTable := #[], attributes := #[] }
def k1m1 : Method := { name := "distinct", desc := "(ZIZIZIZI)I", sig := { parameters := [.boolean, .int, .boolean, .int, .boolean, .int, .boolean, .int], returnType := some .int }, accessFlags := 10, code := some k1c1 }
def k1c2 : Code := { maxStack := 9, maxLocals := 17, code := code, exceptionTable := #[], attributes := #[] }
def k1m2 : Method := { name := "law", desc := "(IIIIII)Z", sig := { parameters := [.int, .int, .int, .int, .int, .int], returnType := some .boolean }, accessFlags := 9, code := some k1c2 }
/-- com/example/liveness/liveness/IntSetAddAllPinLaw -/
def k1 : Class := { plain "com/example/liveness/liveness/IntSetAddAllPinLaw" (some 0) with
  accessFlags := 49
  interfaces := #[]
  cf := some (fileOf pool1 28 #[] #[{ accessFlags := 1, nameIndex := 5, descriptorIndex := 6, attributes := #[] }, { accessFlags := 10, nameIndex := 31, descriptorIndex := 32, attributes := #[] }, { accessFlags := 9, nameIndex := 36, descriptorIndex := 37, attributes := #[] }] 49 2 #[] #[])
  fields := #[]
  methods := #[k1m0, k1m1, k1m2]
  instanceTypes := #[]
  staticTypes := #[]
  resolved := Array.replicate 40 none
  statics := none }

def pool2 : Array CpInfo := pool [(1, .fieldref 2 3), (0, .class_ 4), (0, .nameAndType 5 6), (0, u "com/example/liveness/liveness/IntSet"), (0, u "NO_KEYS"), (0, u "[I"), (0, .fieldref 2 8), (0, .nameAndType 9 10), (0, u "NO_WORDS"), (0, u "[J"), (0, .methodref 2 12), (0, .nameAndType 13 14), (0, u "<init>"), (0, u "([I[JI)V"), (0, .methodref 16 17), (0, .class_ 18), (0, .nameAndType 13 19), (0, u "java/lang/Object"), (0, u "()V"), (0, .fieldref 2 21), (0, .nameAndType 22 6), (0, u "keys"), (0, .fieldref 2 24), (0, .nameAndType 25 10), (0, u "words"), (0, .fieldref 2 27), (0, .nameAndType 28 29), (0, u "count"), (0, u "I"), (0, .methodref 31 32), (0, .class_ 33), (0, .nameAndType 34 35), (0, u "java/util/Arrays"), (0, u "copyOf"), (0, u "([II)[I"), (0, .methodref 31 37), (0, .nameAndType 34 38), (0, u "([JI)[J"), (0, .methodref 40 41), (0, .class_ 42), (0, .nameAndType 43 44), (0, u "java/lang/Long"), (0, u "bitCount"), (0, u "(J)I"), (0, .methodref 31 46), (0, .nameAndType 47 48), (0, u "binarySearch"), (0, u "([IIII)I"), (14, .methodref 64 65), (0, .class_ 66), (0, .nameAndType 67 68), (0, u "java/lang/Math"), (0, u "max"), (0, u "(II)I"), (0, .methodref 70 71), (0, .class_ 72), (0, .nameAndType 73 74), (0, u "java/lang/System"), (0, u "arraycopy"), (0, u "(Ljava/lang/Object;ILjava/lang/Object;II)V"), (17, u "size"), (0, u "()I"), (0, u "contains"), (0, u "(I)Z"), (2, u "add"), (0, u "(I)V"), (3, u "(Lcom/example/liveness/liveness/IntSet;)V"), (0, u "addAll")] 21

def k2c0 : Code := { maxStack := 4, maxLocals := 1, code := prog_27_method_1_code, exceptionTable := #[], attributes := #[] }
def k2m0 : Method := { name := "<init>", desc := "()V", sig := { parameters := [], returnType := none }, accessFlags := 0, code := some k2c0 }
def k2c1 : Code := { maxStack := 2, maxLocals := 4, code := prog_27_method_2_code, exceptionTable := #[], attributes := #[] }
def k2m1 : Method := { name := "<init>", desc := "([I[JI)V", sig := { parameters := [(.array .int), (.array .long), .int], returnType := none }, accessFlags := 2, code := some k2c1 }
def k2c2 : Code := { maxStack := 3, maxLocals := 3, code := prog_27_method_5_code, exceptionTable := #[], attributes := #[] }
def k2m2 : Method := { name := "size", desc := "()I", sig := { parameters := [], returnType := some .int }, accessFlags := 0, code := some k2c2 }
def k2c3 : Code := { maxStack := 5, maxLocals := 3, code := prog_27_method_6_code, exceptionTable := #[], attributes := #[] }
def k2m3 : Method := { name := "contains", desc := "(I)Z", sig := { parameters := [.int], returnType := some .boolean }, accessFlags := 0, code := some k2c3 }
def k2c4 : Code := { maxStack := 7, maxLocals := 5, code := prog_27_method_8_code, exceptionTable := #[], attributes := #[] }
def k2m4 : Method := { name := "add", desc := "(I)V", sig := { parameters := [.int], returnType := none }, accessFlags := 0, code := some k2c4 }
def k2c5 : Code := { maxStack := 6, maxLocals := 7, code := prog_27_method_11_code, exceptionTable := #[], attributes := #[] }
def k2m5 : Method := { name := "addAll", desc := "(Lcom/example/liveness/liveness/IntSet;)V", sig := { parameters := [(.object "com/example/liveness/liveness/IntSet")], returnType := none }, accessFlags := 0, code := some k2c5 }
/-- com/example/liveness/liveness/IntSet -/
def k2 : Class := { plain "com/example/liveness/liveness/IntSet" (some 0) with
  accessFlags := 48
  interfaces := #[]
  cf := some (fileOf pool2 2 #[] #[{ accessFlags := 0, nameIndex := 13, descriptorIndex := 19, attributes := #[] }, { accessFlags := 2, nameIndex := 13, descriptorIndex := 14, attributes := #[] }, { accessFlags := 0, nameIndex := 92, descriptorIndex := 93, attributes := #[] }, { accessFlags := 0, nameIndex := 94, descriptorIndex := 95, attributes := #[] }, { accessFlags := 0, nameIndex := 98, descriptorIndex := 99, attributes := #[] }, { accessFlags := 0, nameIndex := 104, descriptorIndex := 103, attributes := #[] }] 48 16 #[] #[{ accessFlags := 26, nameIndex := 5, descriptorIndex := 6, attributes := #[] }, { accessFlags := 26, nameIndex := 9, descriptorIndex := 10, attributes := #[] }, { accessFlags := 2, nameIndex := 22, descriptorIndex := 6, attributes := #[] }, { accessFlags := 2, nameIndex := 25, descriptorIndex := 10, attributes := #[] }, { accessFlags := 2, nameIndex := 28, descriptorIndex := 29, attributes := #[] }])
  fields := #[{ name := "NO_KEYS", type := (.array .int), accessFlags := 26, slot := 0, constantValue := 0 }, { name := "NO_WORDS", type := (.array .long), accessFlags := 26, slot := 1, constantValue := 0 }, { name := "keys", type := (.array .int), accessFlags := 2, slot := 0, constantValue := 0 }, { name := "words", type := (.array .long), accessFlags := 2, slot := 1, constantValue := 0 }, { name := "count", type := .int, accessFlags := 2, slot := 2, constantValue := 0 }]
  methods := #[k2m0, k2m1, k2m2, k2m3, k2m4, k2m5]
  instanceTypes := #[(.array .int), (.array .long), .int]
  staticTypes := #[(.array .int), (.array .long)]
  resolved := Array.replicate 126 none
  statics := some 0 }

def pool3 : Array CpInfo := pool [(2, .class_ 4), (1, u "java/lang/Object"), (0, u "<init>"), (0, u "()V"), (6, .methodref 14 15), (0, .class_ 16), (0, .nameAndType 17 18), (0, u "java/util/Arrays"), (0, u "rangeCheck"), (0, u "(III)V"), (55, .class_ 76), (1, u "java/util/Arrays$NaturalOrder"), (36, .class_ 115), (1, u "java/util/Arrays$LegacyMergeSort"), (1, u "Z"), (32, .methodref 151 152), (0, .class_ 153), (0, .nameAndType 154 155), (0, u "java/lang/System"), (0, u "arraycopy"), (0, u "(Ljava/lang/Object;ILjava/lang/Object;II)V"), (51, u "binarySearch0"), (1, .methodref 14 210), (0, .nameAndType 207 211), (0, u "([IIII)I"), (90, u "copyOf"), (1, .methodref 305 306), (0, .class_ 307), (0, .nameAndType 308 309), (0, u "java/lang/Math"), (0, u "min"), (0, u "(II)I"), (65, .class_ 376), (0, u "java/util/Arrays$ArrayList"), (68, u "$assertionsDisabled"), (269, u "MIN_ARRAY_SORT_GRAN"), (0, u "I"), (2, u "INSERTIONSORT_THRESHOLD"), (74, u "binarySearch"), (76, u "([II)[I"), (0, u "([JI)[J"), (102, .class_ 976), (0, u "java/util/Arrays$ArrayItr")] 52

def k3m0 : Method := { name := "<init>", desc := "()V", sig := { parameters := [], returnType := none }, accessFlags := 2, code := none }
def k3c1 : Code := { maxStack := 4, maxLocals := 3, code := jdk_65_method_30_code, exceptionTable := #[], attributes := #[] }
def k3m1 : Method := { name := "rangeCheck", desc := "(III)V", sig := { parameters := [.int, .int, .int], returnType := none }, accessFlags := 8, code := some k3c1 }
def k3c2 : Code := { maxStack := 4, maxLocals := 4, code := jdk_65_method_58_code, exceptionTable := #[], attributes := #[] }
def k3m2 : Method := { name := "binarySearch", desc := "([IIII)I", sig := { parameters := [(.array .int), .int, .int, .int], returnType := some .int }, accessFlags := 9, code := some k3c2 }
def k3c3 : Code := { maxStack := 2, maxLocals := 8, code := jdk_65_method_59_code, exceptionTable := #[], attributes := #[] }
def k3m3 : Method := { name := "binarySearch0", desc := "([IIII)I", sig := { parameters := [(.array .int), .int, .int, .int], returnType := some .int }, accessFlags := 10, code := some k3c3 }
def k3c4 : Code := { maxStack := 6, maxLocals := 3, code := jdk_65_method_123_code, exceptionTable := #[], attributes := #[] }
def k3m4 : Method := { name := "copyOf", desc := "([II)[I", sig := { parameters := [(.array .int), .int], returnType := some (.array .int) }, accessFlags := 9, code := some k3c4 }
def k3c5 : Code := { maxStack := 6, maxLocals := 3, code := jdk_65_method_124_code, exceptionTable := #[], attributes := #[] }
def k3m5 : Method := { name := "copyOf", desc := "([JI)[J", sig := { parameters := [(.array .long), .int], returnType := some (.array .long) }, accessFlags := 9, code := some k3c5 }
/-- java/util/Arrays -/
def k3 : Class := { plain "java/util/Arrays" (some 0) with
  accessFlags := 49
  interfaces := #[]
  cf := some (fileOf pool3 14 #[.nestMembers #[975, 375, 113, 74]] #[{ accessFlags := 2, nameIndex := 5, descriptorIndex := 6, attributes := #[] }, { accessFlags := 8, nameIndex := 17, descriptorIndex := 18, attributes := #[] }, { accessFlags := 9, nameIndex := 794, descriptorIndex := 211, attributes := #[] }, { accessFlags := 10, nameIndex := 207, descriptorIndex := 211, attributes := #[] }, { accessFlags := 9, nameIndex := 302, descriptorIndex := 871, attributes := #[] }, { accessFlags := 9, nameIndex := 302, descriptorIndex := 872, attributes := #[] }] 49 2 #[] #[{ accessFlags := 26, nameIndex := 715, descriptorIndex := 716, attributes := #[] }, { accessFlags := 26, nameIndex := 719, descriptorIndex := 716, attributes := #[] }, { accessFlags := 4120, nameIndex := 445, descriptorIndex := 117, attributes := #[] }])
  fields := #[{ name := "MIN_ARRAY_SORT_GRAN", type := .int, accessFlags := 26, slot := 0, constantValue := 0 }, { name := "INSERTIONSORT_THRESHOLD", type := .int, accessFlags := 26, slot := 1, constantValue := 0 }, { name := "$assertionsDisabled", type := .boolean, accessFlags := 4120, slot := 2, constantValue := 0 }]
  methods := #[k3m0, k3m1, k3m2, k3m3, k3m4, k3m5]
  instanceTypes := #[]
  staticTypes := #[.int, .int, .boolean]
  resolved := Array.replicate 1029 none
  statics := none }

def pool4 : Array CpInfo := pool [(1, .class_ 2), (0, u "java/lang/Math"), (1, .class_ 6), (1, u "java/lang/Object"), (0, u "<init>"), (0, u "()V"), (89, .class_ 100), (1, u "java/lang/Math$RandomNumberGeneratorHolder"), (71, u "negativeZeroFloatBits"), (0, u "J"), (2, u "negativeZeroDoubleBits"), (21, u "max"), (2, u "min"), (43, u "$assertionsDisabled"), (0, u "Z"), (88, u "(II)I"), (2, u "twoToTheDoubleScaleDown"), (0, u "D"), (4, u "twoToTheDoubleScaleUp"), (9, u "E"), (3, u "PI"), (2, u "TAU"), (2, u "DEGREES_TO_RADIANS"), (0, u "RADIANS_TO_DEGREES")] 94

def k4m0 : Method := { name := "<init>", desc := "()V", sig := { parameters := [], returnType := none }, accessFlags := 2, code := none }
def k4c1 : Code := { maxStack := 2, maxLocals := 2, code := jdk_29_method_65_code, exceptionTable := #[], attributes := #[] }
def k4m1 : Method := { name := "max", desc := "(II)I", sig := { parameters := [.int, .int], returnType := some .int }, accessFlags := 9, code := some k4c1 }
def k4c2 : Code := { maxStack := 2, maxLocals := 2, code := jdk_29_method_69_code, exceptionTable := #[], attributes := #[] }
def k4m2 : Method := { name := "min", desc := "(II)I", sig := { parameters := [.int, .int], returnType := some .int }, accessFlags := 9, code := some k4c2 }
/-- java/lang/Math -/
def k4 : Class := { plain "java/lang/Math" (some 0) with
  accessFlags := 49
  interfaces := #[]
  cf := some (fileOf pool4 1 #[.nestMembers #[98]] #[{ accessFlags := 2, nameIndex := 7, descriptorIndex := 8, attributes := #[] }, { accessFlags := 9, nameIndex := 198, descriptorIndex := 335, attributes := #[] }, { accessFlags := 9, nameIndex := 201, descriptorIndex := 335, attributes := #[] }] 49 4 #[] #[{ accessFlags := 25, nameIndex := 354, descriptorIndex := 339, attributes := #[] }, { accessFlags := 25, nameIndex := 358, descriptorIndex := 339, attributes := #[] }, { accessFlags := 25, nameIndex := 361, descriptorIndex := 339, attributes := #[] }, { accessFlags := 26, nameIndex := 364, descriptorIndex := 339, attributes := #[] }, { accessFlags := 26, nameIndex := 365, descriptorIndex := 339, attributes := #[] }, { accessFlags := 26, nameIndex := 172, descriptorIndex := 173, attributes := #[] }, { accessFlags := 26, nameIndex := 176, descriptorIndex := 173, attributes := #[] }, { accessFlags := 8, nameIndex := 344, descriptorIndex := 339, attributes := #[] }, { accessFlags := 8, nameIndex := 338, descriptorIndex := 339, attributes := #[] }, { accessFlags := 4120, nameIndex := 245, descriptorIndex := 246, attributes := #[] }])
  fields := #[{ name := "E", type := .double, accessFlags := 25, slot := 0, constantValue := 0 }, { name := "PI", type := .double, accessFlags := 25, slot := 1, constantValue := 0 }, { name := "TAU", type := .double, accessFlags := 25, slot := 2, constantValue := 0 }, { name := "DEGREES_TO_RADIANS", type := .double, accessFlags := 26, slot := 3, constantValue := 0 }, { name := "RADIANS_TO_DEGREES", type := .double, accessFlags := 26, slot := 4, constantValue := 0 }, { name := "negativeZeroFloatBits", type := .long, accessFlags := 26, slot := 5, constantValue := 0 }, { name := "negativeZeroDoubleBits", type := .long, accessFlags := 26, slot := 6, constantValue := 0 }, { name := "twoToTheDoubleScaleUp", type := .double, accessFlags := 8, slot := 7, constantValue := 0 }, { name := "twoToTheDoubleScaleDown", type := .double, accessFlags := 8, slot := 8, constantValue := 0 }, { name := "$assertionsDisabled", type := .boolean, accessFlags := 4120, slot := 9, constantValue := 0 }]
  methods := #[k4m0, k4m1, k4m2]
  instanceTypes := #[]
  staticTypes := #[.double, .double, .double, .double, .double, .long, .long, .double, .double, .boolean]
  resolved := Array.replicate 460 none
  statics := none }

def pool5 : Array CpInfo := pool [(2, .class_ 4), (1, u "java/lang/Object"), (0, u "<init>"), (0, u "()V"), (1, .class_ 10), (1, u "java/lang/System"), (0, u "allowSecurityManager"), (0, u "I"), (16, u "cons"), (0, u "Ljava/io/Console;"), (77, .class_ 110), (1, u "java/lang/System$CallersHolder"), (43, u "initialErrStream"), (0, u "Ljava/io/PrintStream;"), (19, u "security"), (0, u "Ljava/lang/SecurityManager;"), (31, .class_ 209), (0, u "java/lang/System$1"), (7, u "props"), (0, u "Ljava/util/Properties;"), (2, u "lineSeparator"), (0, u "Ljava/lang/String;"), (96, .class_ 321), (1, u "java/lang/System$LoggerFinder"), (5, .class_ 328), (0, u "java/lang/System$Logger"), (67, u "err"), (2, u "out"), (91, u "notSupportedJnuEncoding"), (15, u "in"), (17, u "initialIn"), (0, u "Ljava/io/InputStream;"), (35, u "bootLayer"), (0, u "Ljava/lang/ModuleLayer;"), (99, .class_ 664), (0, u "java/lang/System$2"), (9, u "NEVER"), (2, u "MAYBE"), (49, u "arraycopy"), (0, u "(Ljava/lang/Object;ILjava/lang/Object;II)V"), (72, .class_ 802), (0, u "java/lang/System$Logger$Level")] 31

def k5m0 : Method := { name := "<init>", desc := "()V", sig := { parameters := [], returnType := none }, accessFlags := 2, code := none }
def k5m1 : Method := { name := "arraycopy", desc := "(Ljava/lang/Object;ILjava/lang/Object;II)V", sig := { parameters := [(.object "java/lang/Object"), .int, (.object "java/lang/Object"), .int, .int], returnType := none }, accessFlags := 265, code := none }
/-- java/lang/System -/
def k5 : Class := { plain "java/lang/System" (some 0) with
  accessFlags := 49
  interfaces := #[]
  cf := some (fileOf pool5 8 #[.nestMembers #[319, 327, 801, 108, 663, 208]] #[{ accessFlags := 2, nameIndex := 5, descriptorIndex := 6, attributes := #[] }, { accessFlags := 265, nameIndex := 727, descriptorIndex := 728, attributes := #[] }] 49 2 #[] #[{ accessFlags := 25, nameIndex := 507, descriptorIndex := 526, attributes := #[] }, { accessFlags := 25, nameIndex := 399, descriptorIndex := 155, attributes := #[] }, { accessFlags := 25, nameIndex := 396, descriptorIndex := 155, attributes := #[] }, { accessFlags := 10, nameIndex := 525, descriptorIndex := 526, attributes := #[] }, { accessFlags := 26, nameIndex := 674, descriptorIndex := 12, attributes := #[] }, { accessFlags := 26, nameIndex := 677, descriptorIndex := 12, attributes := #[] }, { accessFlags := 10, nameIndex := 11, descriptorIndex := 12, attributes := #[] }, { accessFlags := 74, nameIndex := 175, descriptorIndex := 176, attributes := #[] }, { accessFlags := 10, nameIndex := 491, descriptorIndex := 222, attributes := #[] }, { accessFlags := 74, nameIndex := 29, descriptorIndex := 30, attributes := #[] }, { accessFlags := 74, nameIndex := 154, descriptorIndex := 155, attributes := #[] }, { accessFlags := 10, nameIndex := 217, descriptorIndex := 218, attributes := #[] }, { accessFlags := 10, nameIndex := 221, descriptorIndex := 222, attributes := #[] }, { accessFlags := 8, nameIndex := 562, descriptorIndex := 563, attributes := #[] }])
  fields := #[{ name := "in", type := (.object "java/io/InputStream"), accessFlags := 25, slot := 0, constantValue := 0 }, { name := "out", type := (.object "java/io/PrintStream"), accessFlags := 25, slot := 1, constantValue := 0 }, { name := "err", type := (.object "java/io/PrintStream"), accessFlags := 25, slot := 2, constantValue := 0 }, { name := "initialIn", type := (.object "java/io/InputStream"), accessFlags := 10, slot := 3, constantValue := 0 }, { name := "NEVER", type := .int, accessFlags := 26, slot := 4, constantValue := 0 }, { name := "MAYBE", type := .int, accessFlags := 26, slot := 5, constantValue := 0 }, { name := "allowSecurityManager", type := .int, accessFlags := 10, slot := 6, constantValue := 0 }, { name := "security", type := (.object "java/lang/SecurityManager"), accessFlags := 74, slot := 7, constantValue := 0 }, { name := "notSupportedJnuEncoding", type := (.object "java/lang/String"), accessFlags := 10, slot := 8, constantValue := 0 }, { name := "cons", type := (.object "java/io/Console"), accessFlags := 74, slot := 9, constantValue := 0 }, { name := "initialErrStream", type := (.object "java/io/PrintStream"), accessFlags := 74, slot := 10, constantValue := 0 }, { name := "props", type := (.object "java/util/Properties"), accessFlags := 10, slot := 11, constantValue := 0 }, { name := "lineSeparator", type := (.object "java/lang/String"), accessFlags := 10, slot := 12, constantValue := 0 }, { name := "bootLayer", type := (.object "java/lang/ModuleLayer"), accessFlags := 8, slot := 13, constantValue := 0 }]
  methods := #[k5m0, k5m1]
  instanceTypes := #[]
  staticTypes := #[(.object "java/io/InputStream"), (.object "java/io/PrintStream"), (.object "java/io/PrintStream"), (.object "java/io/InputStream"), .int, .int, .int, (.object "java/lang/SecurityManager"), (.object "java/lang/String"), (.object "java/io/Console"), (.object "java/io/PrintStream"), (.object "java/util/Properties"), (.object "java/lang/String"), (.object "java/lang/ModuleLayer")]
  resolved := Array.replicate 834 none
  statics := none }

def pool6 : Array CpInfo := pool [(1, .class_ 2), (0, u "java/io/Serializable"), (0, .class_ 4), (0, u "java/lang/Object")] 2

/-- java/io/Serializable -/
def k6 : Class := { plain "java/io/Serializable" (some 0) with
  accessFlags := 1537
  interfaces := #[]
  cf := some (fileOf pool6 1 #[] #[] 1537 3 #[] #[])
  fields := #[]
  methods := #[]
  instanceTypes := #[]
  staticTypes := #[]
  resolved := Array.replicate 7 none
  statics := none }

def pool7 : Array CpInfo := pool [(2, .class_ 4), (1, u "java/lang/Object"), (0, u "<init>"), (0, u "()V"), (1, .class_ 10), (1, u "java/lang/Number"), (2, .class_ 14), (0, u "java/io/Serializable"), (0, u "serialVersionUID"), (0, u "J")] 20

def k7m0 : Method := { name := "<init>", desc := "()V", sig := { parameters := [], returnType := none }, accessFlags := 1, code := none }
/-- java/lang/Number -/
def k7 : Class := { plain "java/lang/Number" (some 0) with
  accessFlags := 1057
  interfaces := #[6]
  cf := some (fileOf pool7 8 #[] #[{ accessFlags := 1, nameIndex := 5, descriptorIndex := 6, attributes := #[] }] 1057 2 #[13] #[{ accessFlags := 26, nameIndex := 15, descriptorIndex := 16, attributes := #[] }])
  fields := #[{ name := "serialVersionUID", type := .long, accessFlags := 26, slot := 0, constantValue := 0 }]
  methods := #[k7m0]
  instanceTypes := #[]
  staticTypes := #[.long]
  resolved := Array.replicate 37 none
  statics := none }

def pool8 : Array CpInfo := pool [(1, .class_ 2), (0, u "java/lang/Comparable"), (0, .class_ 4), (0, u "java/lang/Object")] 7

/-- java/lang/Comparable -/
def k8 : Class := { plain "java/lang/Comparable" (some 0) with
  accessFlags := 1537
  interfaces := #[]
  cf := some (fileOf pool8 1 #[] #[] 1537 3 #[] #[])
  fields := #[]
  methods := #[]
  instanceTypes := #[]
  staticTypes := #[]
  resolved := Array.replicate 12 none
  statics := none }

def pool9 : Array CpInfo := pool [(1, .class_ 2), (0, u "java/lang/constant/Constable"), (0, .class_ 4), (0, u "java/lang/Object")] 6

/-- java/lang/constant/Constable -/
def k9 : Class := { plain "java/lang/constant/Constable" (some 0) with
  accessFlags := 1537
  interfaces := #[]
  cf := some (fileOf pool9 1 #[] #[] 1537 3 #[] #[])
  fields := #[]
  methods := #[]
  instanceTypes := #[]
  staticTypes := #[]
  resolved := Array.replicate 11 none
  statics := none }

def pool10 : Array CpInfo := pool [(1, .class_ 2), (0, u "java/lang/constant/ConstantDesc"), (0, .class_ 4), (0, u "java/lang/Object")] 32

/-- java/lang/constant/ConstantDesc -/
def k10 : Class := { plain "java/lang/constant/ConstantDesc" (some 0) with
  accessFlags := 1537
  interfaces := #[]
  cf := some (fileOf pool10 1 #[] #[] 1537 3 #[] #[])
  fields := #[]
  methods := #[]
  instanceTypes := #[]
  staticTypes := #[]
  resolved := Array.replicate 37 none
  statics := none }

def pool11 : Array CpInfo := pool [(1, .class_ 2), (0, u "java/lang/Long"), (98, u "(J)I"), (133, .class_ 237), (1, u "java/lang/Long$LongCache"), (33, .class_ 272), (0, u "java/lang/Number"), (2, u "value"), (0, u "J"), (37, .long 6148914691236517205), (1, .long 3689348814741910323), (1, .long 1085102592571150095), (42, u "TYPE"), (0, u "Ljava/lang/Class;"), (0, .class_ 364), (0, u "java/lang/Comparable"), (0, .class_ 366), (0, u "java/lang/constant/Constable"), (0, .class_ 368), (0, u "java/lang/constant/ConstantDesc"), (0, u "MIN_VALUE"), (1, u "MAX_VALUE"), (4, u "SIZE"), (0, u "I"), (1, u "BYTES"), (1, u "serialVersionUID"), (94, u "bitCount")] 47

def k11c0 : Code := { maxStack := 6, maxLocals := 2, code := jdk_35_method_50_code, exceptionTable := #[], attributes := #[] }
def k11m0 : Method := { name := "bitCount", desc := "(J)I", sig := { parameters := [.long], returnType := some .int }, accessFlags := 9, code := some k11c0 }
/-- java/lang/Long -/
def k11 : Class := { plain "java/lang/Long" (some 7) with
  accessFlags := 49
  interfaces := #[8, 9, 10]
  cf := some (fileOf pool11 1 #[.nestMembers #[235]] #[{ accessFlags := 9, nameIndex := 476, descriptorIndex := 101, attributes := #[] }] 49 271 #[363, 365, 367] #[{ accessFlags := 25, nameIndex := 369, descriptorIndex := 276, attributes := #[] }, { accessFlags := 25, nameIndex := 371, descriptorIndex := 276, attributes := #[] }, { accessFlags := 25, nameIndex := 361, descriptorIndex := 362, attributes := #[] }, { accessFlags := 18, nameIndex := 275, descriptorIndex := 276, attributes := #[] }, { accessFlags := 25, nameIndex := 376, descriptorIndex := 377, attributes := #[] }, { accessFlags := 25, nameIndex := 379, descriptorIndex := 377, attributes := #[] }, { accessFlags := 26, nameIndex := 381, descriptorIndex := 276, attributes := #[] }])
  fields := #[{ name := "MIN_VALUE", type := .long, accessFlags := 25, slot := 0, constantValue := 0 }, { name := "MAX_VALUE", type := .long, accessFlags := 25, slot := 1, constantValue := 0 }, { name := "TYPE", type := (.object "java/lang/Class"), accessFlags := 25, slot := 2, constantValue := 0 }, { name := "value", type := .long, accessFlags := 18, slot := 0, constantValue := 0 }, { name := "SIZE", type := .int, accessFlags := 25, slot := 3, constantValue := 0 }, { name := "BYTES", type := .int, accessFlags := 25, slot := 4, constantValue := 0 }, { name := "serialVersionUID", type := .long, accessFlags := 26, slot := 5, constantValue := 0 }]
  methods := #[k11m0]
  instanceTypes := #[.long]
  staticTypes := #[.long, .long, (.object "java/lang/Class"), .int, .int, .long]
  resolved := Array.replicate 524 none
  statics := none }

def pool12 : Array CpInfo := pool [(1, u "java/lang/Cloneable"), (0, .class_ 1), (0, u "java/lang/Object"), (0, .class_ 3)] 3

/-- java/lang/Cloneable -/
def k12 : Class := { plain "java/lang/Cloneable" (some 0) with
  accessFlags := 1537
  interfaces := #[]
  cf := some (fileOf pool12 2 #[] #[] 1537 4 #[] #[])
  fields := #[]
  methods := #[]
  instanceTypes := #[]
  staticTypes := #[]
  resolved := Array.replicate 8 none
  statics := none }

/-- the primitive byte -/
def k13 : Class := { plain "byte" none with kind := .primitive 'B', accessFlags := 0x411 }
/-- [B -/
def k14 : Class := { plain "[B" (some 0) with kind := .array 13 .byte, interfaces := #[12, 6], accessFlags := 1041 }

/-- the primitive int -/
def k15 : Class := { plain "int" none with kind := .primitive 'I', accessFlags := 0x411 }
/-- [I -/
def k16 : Class := { plain "[I" (some 0) with kind := .array 15 .int, interfaces := #[12, 6], accessFlags := 1041 }

/-- the primitive long -/
def k17 : Class := { plain "long" none with kind := .primitive 'J', accessFlags := 0x411 }
/-- [J -/
def k18 : Class := { plain "[J" (some 0) with kind := .array 17 .long, interfaces := #[12, 6], accessFlags := 1041 }

def heap : Heap := #[{ cls := 2, slots := #[.ref 1, .ref 2], vm := .statics 2 },
  { cls := 16, slots := #[], vm := .none },
  { cls := 18, slots := #[], vm := .none }]
def classes : Array Class := #[k0, k1, k2, k3, k4, k5, k6, k7, k8, k9, k10, k11, k12, k13, k14, k15, k16, k17, k18]
def interned : List (Array UInt16 × Addr) := []
def slotsUsed : Nat := 2
def theMethod : MethodId := ⟨1, 2⟩
def args0 : Array Value := #[.int 5, .int 5, .int 5, .int 5, .int 5, .int 5]
def aboutOver (below : List Frame) : State where
  vm := { classes := classes, interned := interned.toArray }
  heap := heap
  slotsUsed := slotsUsed
  threads := #[{ frames := .invoking theMethod args0 :: below }]
def below0 : List Frame := [.native { method := ⟨0, 0⟩, args := #[] }]
def about1 : State := aboutOver below0
def p0 : Program := .bare "" "" ""
def e0 : Env := launch0.env 0 0 0
theorem w_frames : about1.frames = Frame.invoking theMethod args0 :: below0 := rfl
set_option maxRecDepth 65536 in
theorem w_args : argsFit about1.vm theMethod args0 = true := by decide +kernel
set_option maxRecDepth 65536 in
theorem w_heap : heapFits about1 = true := by decide +kernel
set_option maxRecDepth 65536 in
theorem w_runnable : about1.curStatus? = some .runnable := by decide +kernel
set_option maxRecDepth 65536 in
theorem w_alone : about1.alone = true := by decide +kernel
set_option maxRecDepth 65536 in
theorem w_named : about1.methodNamed? x = some theMethod := by decide +kernel
set_option maxRecDepth 65536 in
theorem w_hears : about1.hears theMethod below0 = true := by decide +kernel
set_option maxRecDepth 65536 in
theorem w_ripe : about1.ripe theMethod args0 below0 = true := by decide +kernel
theorem w_running : about1.status = .running := rfl
set_option maxRecDepth 65536 in
theorem w_room : about1.hasRoom e0.platform room_1 = true :=
  launch0.hasRoom_least _ room_1 (by decide +kernel) (by decide +kernel) (by decide +kernel) (by decide +kernel) (by decide +kernel) (by decide +kernel)
theorem allAtoms_all (ts : List Jvm.Cond) (a : Array Jvm.Value) (st : Jvm.State) : (allAtoms ts).before a st = ts.all (fun c => c.before a st) := by
  induction ts with
  | nil => rfl
  | cons c t ih =>
    show (Jvm.Cond.and c (allAtoms t)).before a st = _
    rw [Jvm.Cond.before_and, ih, List.all_cons]
def words1 : List Jvm.Cond := Jvm.Cond.code x code maxLocals ret :: tables_1
/-- a 'code' word, met by the world's own term for the bytes: nothing is compared byte by byte -/
theorem code_word {y : MethodName} {bytes : ByteArray} {mx : Nat} {rt : Option FieldType} {a : Array Value} {s : State} {m : MethodId} {meth : Method} {c : Code} (h1 : s.methodNamed? y = some m) (h2 : s.vm.method? m = some meth) (h3 : meth.code = some c) (h4 : c.code = bytes)
    (h5 : (c.maxLocals == mx && c.exceptionTable.isEmpty && decide (c.maxStack ≤ mostOperands) && decide (meth.sig.returnType = rt) && !meth.locks && decide (parseMethodDescriptor y.desc = some meth.sig)) = true) : (Jvm.Cond.code y bytes mx rt).before a s = true := by
  simp only [Bool.and_eq_true, beq_iff_eq, Bool.not_eq_true', decide_eq_true_eq] at h5
  obtain ⟨⟨⟨⟨⟨g1, g2⟩, g3⟩, g4⟩, g5⟩, g6⟩ := h5
  simp [Cond.before, Cond.holds, Cond.value, h1, h2, h3, h4, g1, g2, g3, g4, g5, g6]
def isCode : Jvm.Cond → Bool
  | .code _ _ _ _ => true
  | _ => false
theorem all_split {L : List Jvm.Cond} {P : Jvm.Cond → Bool} (h1 : L.all (fun c => isCode c || P c) = true) (h2 : ∀ c ∈ L.filter isCode, P c = true) : L.all P = true := by
  refine List.all_eq_true.mpr fun c hc => ?_
  have h := List.all_eq_true.mp h1 c hc
  rcases Bool.eq_false_or_eq_true (isCode c) with hi | hi
  · exact h2 c (List.mem_filter.mpr ⟨hc, hi⟩)
  · simpa [hi] using h
set_option maxRecDepth 65536 in
theorem w_c0 : (Jvm.Cond.code x code maxLocals ret).before args0 about1 = true := code_word (m := ⟨1, 2⟩) (meth := k1m2) (c := k1c2) (by decide +kernel) rfl rfl rfl (by decide +kernel)
set_option maxRecDepth 65536 in
theorem w_c1 : (Jvm.Cond.code ({ cls := "com/example/liveness/liveness/IntSet", name := "<init>", desc := "()V" } : Jvm.MethodName) prog_27_method_1_code (1 : Nat) (Option.none : Option Jvm.ClassFile.FieldType)).before args0 about1 = true := code_word (m := ⟨2, 0⟩) (meth := k2m0) (c := k2c0) (by decide +kernel) rfl rfl rfl (by decide +kernel)
set_option maxRecDepth 65536 in
theorem w_c2 : (Jvm.Cond.code ({ cls := "com/example/liveness/liveness/IntSet", name := "<init>", desc := "([I[JI)V" } : Jvm.MethodName) prog_27_method_2_code (4 : Nat) (Option.none : Option Jvm.ClassFile.FieldType)).before args0 about1 = true := code_word (m := ⟨2, 1⟩) (meth := k2m1) (c := k2c1) (by decide +kernel) rfl rfl rfl (by decide +kernel)
set_option maxRecDepth 65536 in
theorem w_c3 : (Jvm.Cond.code ({ cls := "java/lang/Object", name := "<init>", desc := "()V" } : Jvm.MethodName) object_method_1_code (1 : Nat) (Option.none : Option Jvm.ClassFile.FieldType)).before args0 about1 = true := code_word (m := ⟨0, 0⟩) (meth := k0m0) (c := k0c0) (by decide +kernel) rfl rfl rfl (by decide +kernel)
set_option maxRecDepth 65536 in
theorem w_c4 : (Jvm.Cond.code ({ cls := "com/example/liveness/liveness/IntSet", name := "add", desc := "(I)V" } : Jvm.MethodName) prog_27_method_8_code (5 : Nat) (Option.none : Option Jvm.ClassFile.FieldType)).before args0 about1 = true := code_word (m := ⟨2, 4⟩) (meth := k2m4) (c := k2c4) (by decide +kernel) rfl rfl rfl (by decide +kernel)
set_option maxRecDepth 65536 in
theorem w_c5 : (Jvm.Cond.code ({ cls := "java/util/Arrays", name := "binarySearch", desc := "([IIII)I" } : Jvm.MethodName) jdk_65_method_58_code (4 : Nat) (Option.some Jvm.ClassFile.FieldType.int)).before args0 about1 = true := code_word (m := ⟨3, 2⟩) (meth := k3m2) (c := k3c2) (by decide +kernel) rfl rfl rfl (by decide +kernel)
set_option maxRecDepth 65536 in
theorem w_c6 : (Jvm.Cond.code ({ cls := "java/util/Arrays", name := "rangeCheck", desc := "(III)V" } : Jvm.MethodName) jdk_65_method_30_code (3 : Nat) (Option.none : Option Jvm.ClassFile.FieldType)).before args0 about1 = true := code_word (m := ⟨3, 1⟩) (meth := k3m1) (c := k3c1) (by decide +kernel) rfl rfl rfl (by decide +kernel)
set_option maxRecDepth 65536 in
theorem w_c7 : (Jvm.Cond.code ({ cls := "java/util/Arrays", name := "binarySearch0", desc := "([IIII)I" } : Jvm.MethodName) jdk_65_method_59_code (8 : Nat) (Option.some Jvm.ClassFile.FieldType.int)).before args0 about1 = true := code_word (m := ⟨3, 3⟩) (meth := k3m3) (c := k3c3) (by decide +kernel) rfl rfl rfl (by decide +kernel)
set_option maxRecDepth 65536 in
theorem w_c8 : (Jvm.Cond.code ({ cls := "java/lang/Math", name := "max", desc := "(II)I" } : Jvm.MethodName) jdk_29_method_65_code (2 : Nat) (Option.some Jvm.ClassFile.FieldType.int)).before args0 about1 = true := code_word (m := ⟨4, 1⟩) (meth := k4m1) (c := k4c1) (by decide +kernel) rfl rfl rfl (by decide +kernel)
set_option maxRecDepth 65536 in
theorem w_c9 : (Jvm.Cond.code ({ cls := "java/util/Arrays", name := "copyOf", desc := "([II)[I" } : Jvm.MethodName) jdk_65_method_123_code (3 : Nat) (Option.some (Jvm.ClassFile.FieldType.array Jvm.ClassFile.FieldType.int))).before args0 about1 = true := code_word (m := ⟨3, 4⟩) (meth := k3m4) (c := k3c4) (by decide +kernel) rfl rfl rfl (by decide +kernel)
set_option maxRecDepth 65536 in
theorem w_c10 : (Jvm.Cond.code ({ cls := "java/lang/Math", name := "min", desc := "(II)I" } : Jvm.MethodName) jdk_29_method_69_code (2 : Nat) (Option.some Jvm.ClassFile.FieldType.int)).before args0 about1 = true := code_word (m := ⟨4, 2⟩) (meth := k4m2) (c := k4c2) (by decide +kernel) rfl rfl rfl (by decide +kernel)
set_option maxRecDepth 65536 in
theorem w_c11 : (Jvm.Cond.code ({ cls := "java/util/Arrays", name := "copyOf", desc := "([JI)[J" } : Jvm.MethodName) jdk_65_method_124_code (3 : Nat) (Option.some (Jvm.ClassFile.FieldType.array Jvm.ClassFile.FieldType.long))).before args0 about1 = true := code_word (m := ⟨3, 5⟩) (meth := k3m5) (c := k3c5) (by decide +kernel) rfl rfl rfl (by decide +kernel)
set_option maxRecDepth 65536 in
theorem w_c12 : (Jvm.Cond.code ({ cls := "com/example/liveness/liveness/IntSet", name := "addAll", desc := "(Lcom/example/liveness/liveness/IntSet;)V" } : Jvm.MethodName) prog_27_method_11_code (7 : Nat) (Option.none : Option Jvm.ClassFile.FieldType)).before args0 about1 = true := code_word (m := ⟨2, 5⟩) (meth := k2m5) (c := k2c5) (by decide +kernel) rfl rfl rfl (by decide +kernel)
set_option maxRecDepth 65536 in
theorem w_c13 : (Jvm.Cond.code ({ cls := "com/example/liveness/liveness/IntSet", name := "contains", desc := "(I)Z" } : Jvm.MethodName) prog_27_method_6_code (3 : Nat) (Option.some Jvm.ClassFile.FieldType.boolean)).before args0 about1 = true := code_word (m := ⟨2, 3⟩) (meth := k2m3) (c := k2c3) (by decide +kernel) rfl rfl rfl (by decide +kernel)
set_option maxRecDepth 65536 in
theorem w_c14 : (Jvm.Cond.code ({ cls := "com/example/liveness/liveness/IntSet", name := "size", desc := "()I" } : Jvm.MethodName) prog_27_method_5_code (3 : Nat) (Option.some Jvm.ClassFile.FieldType.int)).before args0 about1 = true := code_word (m := ⟨2, 2⟩) (meth := k2m2) (c := k2c2) (by decide +kernel) rfl rfl rfl (by decide +kernel)
set_option maxRecDepth 65536 in
theorem w_c15 : (Jvm.Cond.code ({ cls := "java/lang/Long", name := "bitCount", desc := "(J)I" } : Jvm.MethodName) jdk_35_method_50_code (2 : Nat) (Option.some Jvm.ClassFile.FieldType.int)).before args0 about1 = true := code_word (m := ⟨11, 0⟩) (meth := k11m0) (c := k11c0) (by decide +kernel) rfl rfl rfl (by decide +kernel)
set_option maxRecDepth 65536 in
theorem w_c16 : (Jvm.Cond.code ({ cls := "com/example/liveness/liveness/IntSetAddAllPinLaw", name := "distinct", desc := "(ZIZIZIZI)I" } : Jvm.MethodName) method_2_code (9 : Nat) (Option.some Jvm.ClassFile.FieldType.int)).before args0 about1 = true := code_word (m := ⟨1, 1⟩) (meth := k1m1) (c := k1c1) (by decide +kernel) rfl rfl rfl (by decide +kernel)
def codes1 : List Jvm.Cond := [Jvm.Cond.code x code maxLocals ret, Jvm.Cond.code ({ cls := "com/example/liveness/liveness/IntSet", name := "<init>", desc := "()V" } : Jvm.MethodName) prog_27_method_1_code (1 : Nat) (Option.none : Option Jvm.ClassFile.FieldType), Jvm.Cond.code ({ cls := "com/example/liveness/liveness/IntSet", name := "<init>", desc := "([I[JI)V" } : Jvm.MethodName) prog_27_method_2_code (4 : Nat) (Option.none : Option Jvm.ClassFile.FieldType), Jvm.Cond.code ({ cls := "java/lang/Object", name := "<init>", desc := "()V" } : Jvm.MethodName) object_method_1_code (1 : Nat) (Option.none : Option Jvm.ClassFile.FieldType), Jvm.Cond.code ({ cls := "com/example/liveness/liveness/IntSet", name := "add", desc := "(I)V" } : Jvm.MethodName) prog_27_method_8_code (5 : Nat) (Option.none : Option Jvm.ClassFile.FieldType), Jvm.Cond.code ({ cls := "java/util/Arrays", name := "binarySearch", desc := "([IIII)I" } : Jvm.MethodName) jdk_65_method_58_code (4 : Nat) (Option.some Jvm.ClassFile.FieldType.int), Jvm.Cond.code ({ cls := "java/util/Arrays", name := "rangeCheck", desc := "(III)V" } : Jvm.MethodName) jdk_65_method_30_code (3 : Nat) (Option.none : Option Jvm.ClassFile.FieldType), Jvm.Cond.code ({ cls := "java/util/Arrays", name := "binarySearch0", desc := "([IIII)I" } : Jvm.MethodName) jdk_65_method_59_code (8 : Nat) (Option.some Jvm.ClassFile.FieldType.int), Jvm.Cond.code ({ cls := "java/lang/Math", name := "max", desc := "(II)I" } : Jvm.MethodName) jdk_29_method_65_code (2 : Nat) (Option.some Jvm.ClassFile.FieldType.int), Jvm.Cond.code ({ cls := "java/util/Arrays", name := "copyOf", desc := "([II)[I" } : Jvm.MethodName) jdk_65_method_123_code (3 : Nat) (Option.some (Jvm.ClassFile.FieldType.array Jvm.ClassFile.FieldType.int)), Jvm.Cond.code ({ cls := "java/lang/Math", name := "min", desc := "(II)I" } : Jvm.MethodName) jdk_29_method_69_code (2 : Nat) (Option.some Jvm.ClassFile.FieldType.int), Jvm.Cond.code ({ cls := "java/util/Arrays", name := "copyOf", desc := "([JI)[J" } : Jvm.MethodName) jdk_65_method_124_code (3 : Nat) (Option.some (Jvm.ClassFile.FieldType.array Jvm.ClassFile.FieldType.long)), Jvm.Cond.code ({ cls := "com/example/liveness/liveness/IntSet", name := "addAll", desc := "(Lcom/example/liveness/liveness/IntSet;)V" } : Jvm.MethodName) prog_27_method_11_code (7 : Nat) (Option.none : Option Jvm.ClassFile.FieldType), Jvm.Cond.code ({ cls := "com/example/liveness/liveness/IntSet", name := "contains", desc := "(I)Z" } : Jvm.MethodName) prog_27_method_6_code (3 : Nat) (Option.some Jvm.ClassFile.FieldType.boolean), Jvm.Cond.code ({ cls := "com/example/liveness/liveness/IntSet", name := "size", desc := "()I" } : Jvm.MethodName) prog_27_method_5_code (3 : Nat) (Option.some Jvm.ClassFile.FieldType.int), Jvm.Cond.code ({ cls := "java/lang/Long", name := "bitCount", desc := "(J)I" } : Jvm.MethodName) jdk_35_method_50_code (2 : Nat) (Option.some Jvm.ClassFile.FieldType.int), Jvm.Cond.code ({ cls := "com/example/liveness/liveness/IntSetAddAllPinLaw", name := "distinct", desc := "(ZIZIZIZI)I" } : Jvm.MethodName) method_2_code (9 : Nat) (Option.some Jvm.ClassFile.FieldType.int)]
set_option maxRecDepth 65536 in
theorem codes_eq : words1.filter isCode = codes1 := rfl
theorem w_codes : ∀ c ∈ words1.filter isCode, c.before args0 about1 = true := by
  rw [codes_eq]
  intro c hc
  simp only [codes1, List.mem_cons, List.not_mem_nil, or_false] at hc
  rcases hc with rfl | rfl | rfl | rfl | rfl | rfl | rfl | rfl | rfl | rfl | rfl | rfl | rfl | rfl | rfl | rfl | rfl
  · exact w_c0
  · exact w_c1
  · exact w_c2
  · exact w_c3
  · exact w_c4
  · exact w_c5
  · exact w_c6
  · exact w_c7
  · exact w_c8
  · exact w_c9
  · exact w_c10
  · exact w_c11
  · exact w_c12
  · exact w_c13
  · exact w_c14
  · exact w_c15
  · exact w_c16
set_option maxRecDepth 65536 in
theorem w_t1 : (words1.take 24).all (fun c => isCode c || c.before args0 about1) = true := by decide +kernel
set_option maxRecDepth 65536 in
theorem w_t2 : ((words1.drop 24).take 24).all (fun c => isCode c || c.before args0 about1) = true := by decide +kernel
set_option maxRecDepth 65536 in
theorem w_t3 : (((words1.drop 24).drop 24).take 24).all (fun c => isCode c || c.before args0 about1) = true := by decide +kernel
set_option maxRecDepth 65536 in
theorem w_t4 : (((words1.drop 24).drop 24).drop 24).all (fun c => isCode c || c.before args0 about1) = true := by decide +kernel
theorem w_tables : (allAtoms (Jvm.Cond.code x code maxLocals ret :: tables_1)).before args0 about1 = true := by
  rw [allAtoms_all]
  show words1.all (fun c => c.before args0 about1) = true
  refine all_split ?_ w_codes
  rw [← List.take_append_drop 24 words1, List.all_append, w_t1, ← List.take_append_drop 24 (words1.drop 24), List.all_append, w_t2, ← List.take_append_drop 24 ((words1.drop 24).drop 24), List.all_append, w_t3, w_t4]
  rfl
set_option maxRecDepth 65536 in
theorem w_case : (Jvm.Cond.and given_1 narrow_1).before args0 about1 = true := by decide +kernel
theorem w_applies : (headSpec (Jvm.Cond.code x code maxLocals ret :: tables_1) room_1).applies x e0.platform about1 = true :=
  (Spec.applies_iff w_frames).mpr ⟨w_running, w_runnable, w_alone, w_named, w_hears, w_ripe, w_room, w_tables⟩
theorem atStart : AtStart classFile x code maxLocals ret World_1 tables_1 room_1 Calls_1 rest_1 Pre_1 launch0 p0 e0 about1 theMethod args0 below0 :=
  ⟨lists_1, trivial, launch0.admits_env _ _ _, launch0.least_env, fairChoices_fair.cas, fairChoices_fair.clock, w_frames, w_args, w_heap, w_applies, trivial, trivial, w_case⟩
end start1
theorem witness_1 : WitnessClaimed_1 := ⟨start1.p0, start1.e0, start1.about1, start1.theMethod, start1.args0, start1.below0, start1.atStart⟩
end Jvm.Pilot.@@N@@
