import JvmDerived
import JvmDerived.Pilot.@@N@@Statement
import JvmDerived.Pilot.@@N@@Code
set_option linter.unusedVariables false
set_option linter.unusedSimpArgs false
namespace Jvm.OwnK
open Sem ClassFile Op Lib Bundle Jvm.Stand Jvm.Free Jvm.LawKit Jvm.RoadKit
/-! A small calculus of runs over the library's Stand, own text. Run: from any state that stands with heap h at pc, locals L, stack S, the run ends well. -/
abbrev Kx : Type := Program × Launch × Env × Room × State × MethodId × Array Value × List Frame × Method × Code
abbrev Kx.p (K : Kx) : Program := K.1
abbrev Kx.l (K : Kx) : Launch := K.2.1
abbrev Kx.e (K : Kx) : Env := K.2.2.1
abbrev Kx.R (K : Kx) : Room := K.2.2.2.1
abbrev Kx.s (K : Kx) : State := K.2.2.2.2.1
abbrev Kx.m (K : Kx) : MethodId := K.2.2.2.2.2.1
abbrev Kx.as (K : Kx) : Array Value := K.2.2.2.2.2.2.1
abbrev Kx.bl (K : Kx) : List Frame := K.2.2.2.2.2.2.2.1
abbrev Kx.me (K : Kx) : Method := K.2.2.2.2.2.2.2.2.1
abbrev Kx.c (K : Kx) : Code := K.2.2.2.2.2.2.2.2.2
/-- the walk stands at T, its heap h, cl cells and sl slots made; W: places that no booked constant holds -/
def St (Z : State) (EL : List (String × Nat)) (nI : Bool) (K : Kx) (W : List Addr) (h : Heap) (cl sl : Nat) (T : State) : Prop :=
  ∃ (vm0 : Vm) (k0 : Nat) (locs : List Loc), Stand K.p K.l K.e K.R (K.s.setVm vm0) K.m K.as K.bl K.me K.c T locs cl sl ∧ K.s.Since vm0 k0 ∧ k0 ≤ h.size ∧ Z.Warmed39 vm0 ∧ CHr Z EL K.s.vm K.s.heap vm0 h ∧ (∀ x ∈ W, x < h.size ∧ Safe Z EL vm0 h x) ∧ T.heap = h ∧ Fr Z.heap.size locs ∧ (nI = true → K.s.WarmedH vm0) ∧ Ext Z.heap h
def Go (Z : State) (EL : List (String × Nat)) (nI : Bool) (K : Kx) (Q : Option Value → Heap → Prop) (T : State) (g : JFrame) : Prop :=
  ∃ s₂ v L, Steps K.p.tables K.e K.bl (T.setTop g) s₂ ∧ s₂.status = .running ∧ Ended s₂ K.bl (.returned v) ∧ Q v s₂.heap ∧ Fr Z.heap.size L ∧ CHr Z EL K.s.vm K.s.heap s₂.vm s₂.heap ∧ ReturnedEndW K.s (.returned v) s₂ L K.R.cells K.R.slots ∧ (nI = true → K.s.WarmedH s₂.vm) ∧ Ext Z.heap s₂.heap
def Run (Z : State) (EL : List (String × Nat)) (nI : Bool) (K : Kx) (Q : Option Value → Heap → Prop) (W : List Addr) (h : Heap) (cl sl pc : Nat) (L : Array Slot) (S : List Value) : Prop :=
  ∀ T, St Z EL nI K W h cl sl T → Go Z EL nI K Q T (mkF K.m pc L S)
/-- what is known of the invocation -/
def Ok (Z : State) (EL : List (String × Nat)) (a0 : Array Value) (l : Launch) (own nm : String) (bytes : ByteArray) (ml : Nat) (ret : Option FieldType) (R : Room) (K : Kx) : Prop :=
  K.p.tables.exec = Jvm.exec ∧ K.l = l ∧ K.R = R ∧ K.c.code = bytes ∧ K.c.maxLocals = ml ∧ K.me.sig.returnType = ret ∧ K.me.locks = false ∧ K.me.name = nm ∧ K.s.vm.findClass own = some K.m.cls ∧ EW Z a0 EL
/-- a place that a walk may write -/
def Sf (Z : State) (EL : List (String × Nat)) (W : List Addr) (h : Heap) (a : Addr) : Prop := ∀ vm, Z.Warmed39 vm → (∀ x ∈ W, x < h.size ∧ Safe Z EL vm h x) → Safe Z EL vm h a
section Rules
variable {Z : State} {EL : List (String × Nat)} {nI : Bool} {a0 : Array Value} {l : Launch} {own nm : String} {bytes : ByteArray} {ml : Nat} {ret : Option FieldType} {R : Room} {K : Kx} {Q : Option Value → Heap → Prop} {W W' : List Addr} {h : Heap} {cl sl cl' sl' pc pc' : Nat} {L L' : Array Slot} {S S' : List Value} {a : Addr} {C : String} {ty : FieldType}
theorem sfW (hm : a ∈ W) : Sf Z EL W h a := fun _ _ q => (q a hm).2
theorem sfE (E : Exa Z h a C) (h1 : C ≠ "java/lang/String") (h2 : C ≠ "[B") : Sf Z EL W h a := fun _ hZ _ => Safe.exa hZ.alike E h1 h2
theorem sfA {k : ClassId} {z : Int32} {vs : List Value} {dv : Value} (A : Arv Z h a k ty z vs dv) (ht : ty ≠ .byte) : Sf Z EL W h a := fun _ hZ _ => Safe.arv hZ.alike A ht
theorem sfR {c : Cell} (A : Arr Z h a c ty) (ht : ty ≠ .byte) : Sf Z EL W h a := fun _ hZ _ => Safe.arr hZ.alike A ht
theorem sfN : Sf Z [] W h a := fun _ _ _ B => by obtain ⟨p, hp, -⟩ := B; cases hp
/-- fewer places -/
theorem Run.less (k : Run Z EL nI K Q W' h cl sl pc L S) (hs : ∀ x ∈ W', x ∈ W) : Run Z EL nI K Q W h cl sl pc L S := fun T X => by
  obtain ⟨vm0, k0, locs, X1, X2, X3, X4, X5, X6, X7⟩ := X
  exact k T ⟨vm0, k0, locs, X1, X2, X3, X4, X5, fun x hx => X6 x (hs x hx), X7⟩
/-- more room -/
theorem Run.mono (k : Run Z EL nI K Q W h cl' sl' pc L S) (h1 : cl ≤ cl') (h2 : sl ≤ sl') : Run Z EL nI K Q W h cl sl pc L S := fun T X => by
  obtain ⟨vm0, k0, locs, X1, X7⟩ := X
  exact k T ⟨vm0, k0, locs, X1.mono h1 h2, X7⟩
/-- nothing that stood at the start was written -/
theorem Run.old (k : Ext Z.heap h → Run Z EL nI K Q W h cl sl pc L S) : Run Z EL nI K Q W h cl sl pc L S := fun T X => by
  obtain ⟨vm0, k0, locs, X1, X2, X3, X4, X5, X6, X7, X8, X9, X10⟩ := id X
  exact k X10 T X
/-- a step that leaves the heap -/
theorem Run.same (hK : Ok Z EL a0 l own nm bytes ml ret R K)
    (f : ∀ T vm0 locs, Stand K.p K.l K.e K.R (K.s.setVm vm0) K.m K.as K.bl K.me K.c T locs cl sl → Z.Warmed39 (K.s.setVm vm0).vm → (K.s.setVm vm0).vm.findClass own = some K.m.cls → T.heap = h →
      ∃ T', Stand K.p K.l K.e K.R (K.s.setVm vm0) K.m K.as K.bl K.me K.c T' locs cl sl ∧ T'.heap = h ∧ ∀ t, Steps K.p.tables K.e K.bl (T'.setTop (mkF K.m pc' L' S')) t → Steps K.p.tables K.e K.bl (T.setTop (mkF K.m pc L S)) t)
    (k : Run Z EL nI K Q W h cl sl pc' L' S') : Run Z EL nI K Q W h cl sl pc L S := fun T X => by
  obtain ⟨vm0, k0, locs, X1, X2, X3, X4, X5, X6, X7, X8⟩ := X
  obtain ⟨T', Y, eY, st⟩ := f T vm0 locs X1 X4 (by rw [show (K.s.setVm vm0).vm = vm0 from rfl, X2.1.alike.findClass]; exact hK.2.2.2.2.2.2.2.2.1) X7
  obtain ⟨s2, v, Lo, g, r⟩ := k T' ⟨vm0, k0, locs, Y, X2, X3, X4, X5, X6, eY, X8⟩
  exact ⟨s2, v, Lo, st _ g, r⟩
/-- a step that moves frames alone -/
theorem Run.step (hK : Ok Z EL a0 l own nm bytes ml ret R K)
    (f : ∀ T, At T K.m K.c K.bl → ∀ t, Steps K.p.tables K.e K.bl (T.setTop (mkF K.m pc' L' S')) t → Steps K.p.tables K.e K.bl (T.setTop (mkF K.m pc L S)) t)
    (k : Run Z EL nI K Q W h cl sl pc' L' S') : Run Z EL nI K Q W h cl sl pc L S :=
  Run.same hK (fun T vm0 locs X _ _ e => ⟨T, X, e, f T X.here⟩) k
/-- a step that makes cells -/
theorem Run.grow (hK : Ok Z EL a0 l own nm bytes ml ret R K) {P : Heap → Prop}
    (f : ∀ T vm0 locs, Stand K.p K.l K.e K.R (K.s.setVm vm0) K.m K.as K.bl K.me K.c T locs cl sl → Z.Warmed39 (K.s.setVm vm0).vm → (K.s.setVm vm0).vm.findClass own = some K.m.cls → T.heap = h →
      ∃ T' h', Stand K.p K.l K.e K.R (K.s.setVm vm0) K.m K.as K.bl K.me K.c T' locs cl' sl' ∧ T'.heap = h' ∧ Ext h h' ∧ h.size < h'.size ∧ P h' ∧ ∀ t, Steps K.p.tables K.e K.bl (T'.setTop (mkF K.m pc' L' S')) t → Steps K.p.tables K.e K.bl (T.setTop (mkF K.m pc L S)) t)
    (k : ∀ h', Ext h h' → P h' → Run Z EL nI K Q (h.size :: W) h' cl' sl' pc' L' S') : Run Z EL nI K Q W h cl sl pc L S := fun T X => by
  obtain ⟨vm0, k0, locs, X1, X2, X3, X4, X5, X6, X7, X8, X9, X10⟩ := X
  obtain ⟨T', h', Y, eY, E, hsz, hP, st⟩ := f T vm0 locs X1 X4 (by rw [show (K.s.setVm vm0).vm = vm0 from rfl, X2.1.alike.findClass]; exact hK.2.2.2.2.2.2.2.2.1) X7
  obtain ⟨s2, v, Lo, g, r⟩ := k h' E hP T' ⟨vm0, k0, locs, Y, X2, Nat.le_trans X3 E.1, X4, X5.trans (CHr.ext E X5.1), fun x hx => by
    rcases List.mem_cons.mp hx with rfl | hx
    · exact ⟨hsz, Safe.ext E X5.1 (Safe.new (Nat.le_refl _))⟩
    · exact ⟨Nat.lt_of_lt_of_le (X6 x hx).1 E.1, Safe.ext E X5.1 (X6 x hx).2⟩, eY, X8, X9, Nat.le_trans X10.1 E.1, fun x c q => E.2 x c (X10.2 x c q)⟩
  exact ⟨s2, v, Lo, st _ g, r⟩
/-- a step that writes one place -/
theorem Run.write (hK : Ok Z EL a0 l own nm bytes ml ret R K) {i : Nat} {w : Value} (ha : Z.heap.size ≤ a) (hs : Sf Z EL W h a)
    (f : ∀ T vm0 locs, Stand K.p K.l K.e K.R (K.s.setVm vm0) K.m K.as K.bl K.me K.c T locs cl sl → Z.Warmed39 (K.s.setVm vm0).vm → (K.s.setVm vm0).vm.findClass own = some K.m.cls → T.heap = h →
      ∃ T' h', Stand K.p K.l K.e K.R (K.s.setVm vm0) K.m K.as K.bl K.me K.c T' (locs ++ [⟨a, i⟩]) cl sl ∧ T'.heap = h' ∧ Wr h h' a i w ∧ ∀ t, Steps K.p.tables K.e K.bl (T'.setTop (mkF K.m pc' L' S')) t → Steps K.p.tables K.e K.bl (T.setTop (mkF K.m pc L S)) t)
    (k : ∀ h', Wr h h' a i w → Run Z EL nI K Q W h' cl sl pc' L' S') : Run Z EL nI K Q W h cl sl pc L S := fun T X => by
  obtain ⟨vm0, k0, locs, X1, X2, X3, X4, X5, X6, X7, X8, X9, X10⟩ := X
  obtain ⟨T', h', Y, eY, Wt, st⟩ := f T vm0 locs X1 X4 (by rw [show (K.s.setVm vm0).vm = vm0 from rfl, X2.1.alike.findClass]; exact hK.2.2.2.2.2.2.2.2.1) X7
  have hsz := Wt.size
  have sa := hs vm0 X4 X6
  obtain ⟨s2, v, Lo, g, r⟩ := k h' Wt T' ⟨vm0, k0, _, Y, X2, hsz ▸ X3, X4, X5.trans (CHr.wr Wt sa X5.1), fun x hx => ⟨hsz ▸ (X6 x hx).1, Safe.wr Wt sa X5.1 (X6 x hx).2⟩, eY, Fr.snoc Y X8 ha, X9, (Old.wr (Z := Z) (n0 := Z.heap.size) ⟨rfl, X10⟩ Wt ha).2⟩
  exact ⟨s2, v, Lo, st _ g, r⟩
end Rules
/-- **A CALLEE, PAID**: whatever pays it -/
def Cal (Z : State) (EL : List (String × Nat)) (nI : Bool) (a0 : Array Value) (l : Launch) (R : Room) (y : MethodName) (len Wt : Nat) (as' : Array Value) (h : Heap) (W : List Addr) (kc ks : Nat) (Qy : Option Value → Heap → Prop) : Prop :=
  ∀ (p : Program) (e : Env) (bl : List Frame) (s : State) (as : Array Value) (vm0 : Vm), Z.Warmed39 vm0 → EW Z a0 EL → CHv Z EL vm0 h → (∀ x ∈ W, x < h.size ∧ Safe Z EL vm0 h x) → Ext Z.heap h →
    BackS l R p e bl (s.setVm vm0) as y len Wt (fun A a => a = as' ∧ A.U.heap = h ∧ A.cells + kc ≤ R.cells ∧ A.slots + ks ≤ R.slots)
      (fun A _ v B => ∃ Lo, Qy v B.U.heap ∧ Fr Z.heap.size Lo ∧ B.locs = A.locs ++ Lo ∧ B.cells = A.cells + kc ∧ B.slots = A.slots + ks ∧ CHr Z EL vm0 h B.U.vm B.U.heap ∧ (nI = true → (s.setVm vm0).WarmedH B.U.vm) ∧ Ext Z.heap B.U.heap)
/-- an own contract -/
def Ctr (Z : State) (EL : List (String × Nat)) (nI : Bool) (l : Launch) (ws : List Jvm.Cond) (y : MethodName) (bytes : ByteArray) (ml : Nat) (ret : Option FieldType) (rm : Room) (as' : Array Value) (h : Heap) (W : List Addr) (Qy : Option Value → Heap → Prop) : Prop :=
  MetFree l y (head1 (Jvm.Cond.code y bytes ml ret :: ws) rm) (fun a U => a = as' ∧ Z.Warmed39 U.vm ∧ U.heap = h ∧ CHv Z EL U.vm h ∧ (∀ x ∈ W, x < h.size ∧ Safe Z EL U.vm h x) ∧ Ext Z.heap h) (fun _ _ _ _ _ => True)
    (fun _ U o U' => ∃ v Lo, o = .returned v ∧ Qy v U'.heap ∧ Fr Z.heap.size Lo ∧ CHr Z EL U.vm U.heap U'.vm U'.heap ∧ ReturnedEndW U o U' Lo rm.cells rm.slots ∧ (nI = true → U.WarmedH U'.vm) ∧ Ext Z.heap U'.heap)
section Calls
variable {Z : State} {EL : List (String × Nat)} {nI : Bool} {a0 : Array Value} {l : Launch} {own nm : String} {bytes : ByteArray} {ml : Nat} {ret : Option FieldType} {R rm : Room} {K : Kx} {Q Qy : Option Value → Heap → Prop} {W W' : List Addr} {h : Heap} {cl sl pc len Wt kc ks : Nat} {L : Array Slot} {S rest argsL : List Value} {y z : MethodName} {as' : Array Value} {index : Nat}
theorem Ctr.of_run {L0 : Array Slot} {ws : List Jvm.Cond} (hpl : plainFor y = true) (hEL : EW Z a0 EL) (hent : argsToLocals as' ml = L0)
    (body : ∀ K, Ok Z EL a0 l y.cls y.name bytes ml ret rm K → Run Z EL nI K Qy W h 0 0 0 L0 []) : Ctr Z EL nI l ws y bytes ml ret rm as' h W Qy := by
  refine MetFree.of_bodySF (code := bytes) (maxLocals := ml) (ret := ret) hpl hisR ?_
  intro p e s m args below meth c s₁ Bd hml hP hK
  obtain ⟨rfl, hZ, hh, hC, hS, hO⟩ := hP
  subst hent
  have e0 : s₁.heap = h := by rw [← hh, Bd.state]; rfl
  obtain ⟨s2, v, Lo, g1, g2, g3, g4, g5, g6, g7, g8⟩ := body (p, l, e, rm, s, m, args, below, meth, c) ⟨Bd.exec, rfl, rfl, Bd.bytes, hml, Bd.returns, Bd.notSynchronized, (name_of_methodNamed Bd.named Bd.method).1, findClass_of_methodNamed Bd.named, hEL⟩ s₁
    ⟨s.vm, 0, [], Stand.of_body Bd, (State.WarmedH.refl s).since 0, Nat.zero_le _, hZ, by subst hh; exact CHr.refl hC, hS, e0, Fr.nil _, fun _ => State.WarmedH.refl s, hO⟩
  exact ⟨s2, _, g1, g2, g3, v, Lo, rfl, g4, g5, g6, g7, g8⟩
theorem Ctr.cal (hC : Ctr Z EL nI l [] y bytes ml ret rm as' h W Qy) (wc : (Jvm.Cond.code y bytes ml ret).before a0 Z = true) (wz : (Jvm.Cond.initialized y.cls).before a0 Z = true) (hf : rm.frames + 1 ≤ R.frames) (hl : Wt + (ml + 11) + rm.locals ≤ R.locals) :
    Cal Z EL nI a0 l R y len Wt as' h W rm.cells rm.slots Qy := fun p e bl s as vm0 hZ hEL H hS hO =>
  BackS.of_freeW (bytes := bytes) (maxL := ml) (ret := ret) (E := fun _ first o t Lo k n => k = rm.cells ∧ n = rm.slots ∧ (∃ v, o = .returned v ∧ Qy v t.heap) ∧ Fr Z.heap.size Lo ∧ CHr Z EL first.vm first.heap t.vm t.heap ∧ (nI = true → first.WarmedH t.vm) ∧ Ext Z.heap t.heap) hC hf hl
    (fun m meth c A a Y hp => have hU : Z.Warmed39 A.U.vm := wtrans (s := s.setVm vm0) hZ Y.warmed
      ⟨by show (Cond.and _ .tt).before a A.U = true; rw [Cond.before_and, mv hU wc]; rfl, mv hU wc, mv hU wz, hp.2.2.1, hp.2.2.2⟩)
    (fun m meth c A a g mk Y hp => have B := CHv.at Y hZ hEL H; ⟨hp.1, wtrans (s := s.setVm vm0) hZ Y.warmed, hp.2.1, B.1, fun x hx => ⟨(hS x hx).1, B.safe (hS x hx).1 (hS x hx).2⟩, hO⟩) (fun _ _ _ _ _ _ _ _ _ => trivial)
    (fun _ _ _ _ ⟨v, Lo, h1, h2, h3, h4, h5, h6⟩ => ⟨Lo, _, _, h5, rfl, rfl, ⟨v, h1, h2⟩, h3, h4, h6⟩)
    (fun m meth c A a g mk v t Lo k n Y hp _ _ ⟨e1, e2, ⟨v', e3, e4⟩, e5, e6, e7, e8⟩ => by
      cases e3; subst e1 e2
      refine ⟨Lo, e4, e5, rfl, rfl, rfl, (CHv.at Y hZ hEL H).trans ?_, fun q => State.WarmedH.trans Y.warmed (e7 q), e8⟩
      rw [← hp.2.1]; exact e6)
/-- a law of the library's or of a paste, that interns nothing -/
theorem Cal.of_back {Qz : Option Value → Heap → List Loc → Prop}
    (hB : ∀ (p : Program) (e : Env) (bl : List Frame) (s : State) (as : Array Value), Z.Warmed39 s.vm → Ext Z.heap h → Back l R p e bl s as y len Wt (fun A a => a = as' ∧ A.U.heap = h ∧ A.cells + kc ≤ R.cells ∧ A.slots + ks ≤ R.slots) (fun A _ v B => ∃ Lo, Qz v B.U.heap Lo ∧ B.locs = A.locs ++ Lo ∧ B.cells = A.cells + kc ∧ B.slots = A.slots + ks))
    (hQ : ∀ v h' Lo, Qz v h' Lo → Qy v h' ∧ Fr Z.heap.size Lo ∧ ∃ ws, Keep h h' ws ∧ ∀ x ∈ ws, Z.heap.size ≤ x ∧ Sf Z EL W h x) : Cal Z EL nI a0 l R y len Wt as' h W kc ks Qy := fun p e bl s as vm0 hZ hEL H hS hO => by
  intro m meth c A g ig mk a X hg hsize hdg hW hn hp
  obtain ⟨v, B, X', ⟨Lo, hq, e1, e2, e3⟩, hsteps⟩ := hB p e bl (s.setVm vm0) as hZ hO m meth c A g ig mk a X hg hsize hdg hW hn hp
  obtain ⟨q1, q2, ws, q3, q4⟩ := hQ _ _ _ hq
  have hs : ∀ x ∈ ws, Safe Z EL vm0 h x := fun x hx => (q4 x hx).2 vm0 hZ hS
  exact ⟨v, B, X'.retabled X'.warmed.wide, X'.warmed.since _, by rw [hp.2.1]; exact q3.1, ⟨Lo, q1, q2, e1, e2, e3, (CHr.keep q3 hs H).trans (CHv.at X' hZ hEL (H.keep q3 hs)), fun _ => X'.warmed, (Old.keep (Z := Z) (n0 := Z.heap.size) ⟨rfl, hO⟩ q3 (fun x hx => (q4 x hx).1)).2⟩, hsteps⟩
theorem Cal.more {kc' ks' : Nat} (hC : Cal Z EL nI a0 l R y len Wt as' h W kc ks Qy) (h1 : kc ≤ kc') (h2 : ks ≤ ks') : Cal Z EL nI a0 l R y len Wt as' h W kc' ks' Qy := fun p e bl s as vm0 hZ hEL H hS hO => by
  intro m meth c A g ig mk a X hg hsize hdg hW hn hp
  obtain ⟨v, B, X', q1, q2, ⟨Lo, r1, r2, r3, r4, r5, r6⟩, st⟩ := hC p e bl s as vm0 hZ hEL H hS hO m meth c A g ig mk a X hg hsize hdg hW hn ⟨hp.1, hp.2.1, by have := hp.2.2.1; omega, by have := hp.2.2.2; omega⟩
  exact ⟨v, ⟨B.U, B.locs, A.cells + kc', A.slots + ks'⟩, X'.mono (by show B.cells ≤ A.cells + kc'; rw [r4]; omega) (by show B.slots ≤ A.slots + ks'; rw [r5]; omega), q1, q2, ⟨Lo, r1, r2, r3, rfl, rfl, r6⟩, st⟩
theorem Cal.conseq {Qz : Option Value → Heap → Prop} (hC : Cal Z EL nI a0 l R y len Wt as' h W' kc ks Qy) (hs : ∀ x ∈ W', x ∈ W) (hq : ∀ v h', Qy v h' → Qz v h') : Cal Z EL nI a0 l R y len Wt as' h W kc ks Qz := fun p e bl s as vm0 hZ hEL H hS hO => by
  intro m meth c A g ig mk a X hg hsize hdg hW hn hp
  obtain ⟨v, B, X', q1, q2, ⟨Lo, r1, r⟩, st⟩ := hC p e bl s as vm0 hZ hEL H (fun x hx => hS x (hs x hx)) hO m meth c A g ig mk a X hg hsize hdg hW hn hp
  exact ⟨v, B, X', q1, q2, ⟨Lo, hq _ _ r1, r⟩, st⟩
/-- behind a call: the walk stands again -/
theorem St.back (hK : Ok Z EL a0 l own nm bytes ml ret R K) {vm0 : Vm} {k0 : Nat} {locs : List Loc} {v : Option Value} {B : Pt} (X2 : K.s.Since vm0 k0) (X3 : k0 ≤ h.size) (X4 : Z.Warmed39 vm0) (X5 : CHr Z EL K.s.vm K.s.heap vm0 h) (X6 : ∀ x ∈ W, x < h.size ∧ Safe Z EL vm0 h x) (X8 : Fr Z.heap.size locs) (X9 : nI = true → K.s.WarmedH vm0)
    (Y : Stand K.p K.l K.e K.R ((K.s.setVm vm0).setVm B.U.vm) K.m K.as K.bl K.me K.c B.U B.locs B.cells B.slots) (hS : (K.s.setVm vm0).Since B.U.vm B.U.heap.size) (hg : h.size ≤ B.U.heap.size)
    (hp : ∃ Lo, Qy v B.U.heap ∧ Fr Z.heap.size Lo ∧ B.locs = locs ++ Lo ∧ B.cells = cl + kc ∧ B.slots = sl + ks ∧ CHr Z EL vm0 h B.U.vm B.U.heap ∧ (nI = true → (K.s.setVm vm0).WarmedH B.U.vm) ∧ Ext Z.heap B.U.heap) :
    Qy v B.U.heap ∧ St Z EL nI K W B.U.heap (cl + kc) (sl + ks) B.U := by
  obtain ⟨Lo, h1, h2, h3, h4, h5, h6, h7, h8⟩ := hp
  rw [h3, h4, h5] at Y
  exact ⟨h1, B.U.vm, B.U.heap.size, _, Y, X2.trans hS (Nat.le_trans X3 hg), Nat.le_refl _, State.Warmed39.trans (t := K.s.setVm vm0) X4 hS.1, X5.trans h6, fun x hx => ⟨Nat.lt_of_lt_of_le (X6 x hx).1 hg, h6.safe (X6 x hx).1 (X6 x hx).2⟩, rfl, X8.app h2, fun q => State.WarmedH.trans (X9 q) (h7 q), h8⟩
theorem Ok.fc (hK : Ok Z EL a0 l own nm bytes ml ret R K) {vm0 : Vm} {k0 : Nat} (X2 : K.s.Since vm0 k0) : (K.s.setVm vm0).vm.findClass own = some K.m.cls := by rw [show (K.s.setVm vm0).vm = vm0 from rfl, X2.1.alike.findClass]; exact hK.2.2.2.2.2.2.2.2.1
/-- invokestatic -/
theorem Run.static (hK : Ok Z EL a0 l own nm bytes ml ret R K) {by' : ByteArray} {ml' : Nat} {ret' : Option FieldType} (w1 : (Jvm.Cond.methodLink own index y).before a0 Z = true) (w2 : (Jvm.Cond.static y).before a0 Z = true) (w3 : (Jvm.Cond.initialized y.cls).before a0 Z = true) (w4 : (Jvm.Cond.code y by' ml' ret').before a0 Z = true)
    (hy : y.cls ≠ "java/lang/invoke/MethodHandle" ∧ y.cls ≠ "java/lang/invoke/VarHandle") (hsub : ∀ x ∈ W', x ∈ W) (hC : Cal Z EL nI a0 l R y 3 Wt argsL.toArray h W' kc ks Qy) (hsz : L.size = ml)
    (hlen : ∀ sig, parseMethodDescriptor y.desc = some sig → argsL.length = sig.parameters.length) (hst : S = argsL.reverse ++ rest) (hW : (rest.map fun v => v.category).sum ≤ Wt) (hd : decode bytes pc = .ok (.invokestatic index, 3)) (hc : cl + kc ≤ R.cells) (hs : sl + ks ≤ R.slots)
    (k : ∀ v h', Qy v h' → h.size ≤ h'.size → Run Z EL nI K Q W h' (cl + kc) (sl + ks) (pc + 3) L (v.toList ++ rest)) : Run Z EL nI K Q W h cl sl pc L S := fun T X => by
  obtain ⟨vm0, k0, locs, X1, X2, X3, X4, X5, X6, X7, X8, X9, X10⟩ := X
  have hown := hK.fc X2
  obtain ⟨hx, rfl, rfl, rfl, rfl, -, -, -, -, hEL⟩ := id hK
  have hZ : Z.Warmed39 (K.s.setVm vm0).vm := X4
  subst hst
  obtain ⟨v, vm1, B, -, Y, hS, hg, hp, st⟩ := callSS X1 hx (y := y) hown (mvT hZ w1) (mvT hZ w2) (mvT hZ w3) (mvT hZ w4) hy (hC K.p K.e K.bl K.s K.as vm0 X4 hEL X5.1 (fun x hx => X6 x (hsub x hx)) X10) (g := mkF K.m pc L (argsL.reverse ++ rest)) rfl hsz (argsL := argsL) (rest := rest) hlen rfl (by show 2 * 0 + _ ≤ _; omega) hd (fun _ _ => ⟨rfl, X7, hc, hs⟩)
  rw [X7] at hg
  obtain ⟨hq, Y'⟩ := St.back hK X2 X3 X4 X5 X6 X8 X9 Y hS hg hp
  obtain ⟨s2, v', Lo, g, r⟩ := k v _ hq hg B.U Y'
  exact ⟨s2, v', Lo, st.trans g, r⟩
/-- invokespecial of a constructor -/
theorem Run.special (hK : Ok Z EL a0 l own nm bytes ml ret R K) {by' : ByteArray} {ml' : Nat} (hy1 : y.name = "<init>") (w1 : (Jvm.Cond.methodLink own index y).before a0 Z = true) (w2 : (Jvm.Cond.instanceMethod y).before a0 Z = true) (w4 : (Jvm.Cond.code y by' ml' none).before a0 Z = true)
    (hy : y.cls ≠ "java/lang/invoke/MethodHandle" ∧ y.cls ≠ "java/lang/invoke/VarHandle") {a : Addr} (hsub : ∀ x ∈ W', x ∈ W) (hC : Cal Z EL nI a0 l R y 3 Wt (.ref a :: argsL).toArray h W' kc ks Qy) (hsz : L.size = ml)
    (hlen : ∀ sig, parseMethodDescriptor y.desc = some sig → argsL.length = sig.parameters.length) (hst : S = argsL.reverse ++ .ref a :: rest) (hW : (rest.map fun v => v.category).sum ≤ Wt) (hd : decode bytes pc = .ok (.invokespecial index, 3)) (hc : cl + kc ≤ R.cells) (hs : sl + ks ≤ R.slots)
    (k : ∀ v h', Qy v h' → h.size ≤ h'.size → Run Z EL nI K Q W h' (cl + kc) (sl + ks) (pc + 3) L (v.toList ++ rest)) : Run Z EL nI K Q W h cl sl pc L S := fun T X => by
  obtain ⟨vm0, k0, locs, X1, X2, X3, X4, X5, X6, X7, X8, X9, X10⟩ := X
  have hown := hK.fc X2
  obtain ⟨hx, rfl, rfl, rfl, rfl, -, -, -, -, hEL⟩ := id hK
  have hZ : Z.Warmed39 (K.s.setVm vm0).vm := X4
  subst hst
  obtain ⟨v, vm1, B, -, Y, hS, hg, hp, st⟩ := X1.specialBackS hx (y := y) hy1 hown (mvT hZ w1) (mvT hZ w2) (mvT hZ w4) hy (hC K.p K.e K.bl K.s K.as vm0 X4 hEL X5.1 (fun x hx => X6 x (hsub x hx)) X10) (g := mkF K.m pc L (argsL.reverse ++ .ref a :: rest)) rfl hsz (Steps.refl _) (a := a) (argsL := argsL) (rest := rest) hlen rfl (by show 2 * 0 + _ ≤ _; omega) hd (fun _ _ => ⟨rfl, X7, hc, hs⟩)
  rw [X7] at hg
  obtain ⟨hq, Y'⟩ := St.back hK X2 X3 X4 X5 X6 X8 X9 Y hS hg hp
  obtain ⟨s2, v', Lo, g, r⟩ := k v _ hq hg B.U Y'
  exact ⟨s2, v', Lo, st.trans g, r⟩
/-- invokevirtual, the object exactly of class C -/
theorem Run.virtual (hK : Ok Z EL a0 l own nm bytes ml ret R K) {C : String} (w1 : (Jvm.Cond.methodLink own index y).before a0 Z = true) (w2 : (Jvm.Cond.declares y).before a0 Z = true) (hnf : ∀ s : State, Z.Warmed39 s.vm → NotFace s y) (w3 : (Jvm.Cond.selects C y z).before a0 Z = true) (w4 : (Jvm.Cond.instanceMethod z).before a0 Z = true)
    (hy : y.cls ≠ "java/lang/invoke/MethodHandle" ∧ y.cls ≠ "java/lang/invoke/VarHandle") {a : Addr} (E : Exa Z h a C) (hsub : ∀ x ∈ W', x ∈ W) (hC : Cal Z EL nI a0 l R z 3 Wt (.ref a :: argsL).toArray h W' kc ks Qy) (hsz : L.size = ml)
    (hlen : ∀ sig, parseMethodDescriptor y.desc = some sig → argsL.length = sig.parameters.length) (hst : S = argsL.reverse ++ .ref a :: rest) (hW : (rest.map fun v => v.category).sum ≤ Wt) (hd : decode bytes pc = .ok (.invokevirtual index, 3)) (hc : cl + kc ≤ R.cells) (hs : sl + ks ≤ R.slots)
    (k : ∀ v h', Qy v h' → h.size ≤ h'.size → Run Z EL nI K Q W h' (cl + kc) (sl + ks) (pc + 3) L (v.toList ++ rest)) : Run Z EL nI K Q W h cl sl pc L S := fun T X => by
  obtain ⟨vm0, k0, locs, X1, X2, X3, X4, X5, X6, X7, X8, X9, X10⟩ := X
  have hown := hK.fc X2
  obtain ⟨hx, rfl, rfl, rfl, rfl, -, -, -, -, hEL⟩ := id hK
  have hZ : Z.Warmed39 (K.s.setVm vm0).vm := X4
  subst hst
  obtain ⟨cq, kq, qa, qb, qc⟩ := isOf hZ X7 E
  obtain ⟨v, vm1, B, -, Y, hS, hg, hp, st⟩ := X1.virtualBackS hx (y := y) (z := z) hown (mvT hZ w1) (mvT hZ w2) (hnf _ hZ) (mvT hZ w3) (mvT hZ w4) hy (hC K.p K.e K.bl K.s K.as vm0 X4 hEL X5.1 (fun x hx => X6 x (hsub x hx)) X10) qa qc (g := mkF K.m pc L (argsL.reverse ++ .ref a :: rest)) rfl hsz (Steps.refl _) (argsL := argsL) (rest := rest) hlen rfl (by show 2 * 0 + _ ≤ _; omega) hd (fun _ _ => ⟨rfl, X7, hc, hs⟩)
  rw [X7] at hg
  obtain ⟨hq, Y'⟩ := St.back hK X2 X3 X4 X5 X6 X8 X9 Y hS hg hp
  obtain ⟨s2, v', Lo, g, r⟩ := k v _ hq hg B.U Y'
  exact ⟨s2, v', Lo, st.trans g, r⟩
/-- invokevirtual of a private method of an ordinary class -/
theorem Run.privat (hK : Ok Z EL a0 l own nm bytes ml ret R K) {by' : ByteArray} {ml' n' : Nat} {ret' : Option FieldType} {C : String} (w1 : (Jvm.Cond.methodLink own index y).before a0 Z = true) (w2 : (Jvm.Cond.instanceMethod y).before a0 Z = true) (w3 : (Jvm.Cond.instantiable y.cls n').before a0 Z = true) (w5 : (Jvm.Cond.privateMethod y).before a0 Z = true) (w4 : (Jvm.Cond.code y by' ml' ret').before a0 Z = true)
    (hy : y.cls ≠ "java/lang/invoke/MethodHandle" ∧ y.cls ≠ "java/lang/invoke/VarHandle") {a : Addr} (E : Exa Z h a C) (hsub : ∀ x ∈ W', x ∈ W) (hC : Cal Z EL nI a0 l R y 3 Wt (.ref a :: argsL).toArray h W' kc ks Qy) (hsz : L.size = ml)
    (hlen : ∀ sig, parseMethodDescriptor y.desc = some sig → argsL.length = sig.parameters.length) (hst : S = argsL.reverse ++ .ref a :: rest) (hW : (rest.map fun v => v.category).sum ≤ Wt) (hd : decode bytes pc = .ok (.invokevirtual index, 3)) (hc : cl + kc ≤ R.cells) (hs : sl + ks ≤ R.slots)
    (k : ∀ v h', Qy v h' → h.size ≤ h'.size → Run Z EL nI K Q W h' (cl + kc) (sl + ks) (pc + 3) L (v.toList ++ rest)) : Run Z EL nI K Q W h cl sl pc L S := fun T X => by
  obtain ⟨vm0, k0, locs, X1, X2, X3, X4, X5, X6, X7, X8, X9, X10⟩ := X
  have hown := hK.fc X2
  obtain ⟨hx, rfl, rfl, rfl, rfl, -, -, -, -, hEL⟩ := id hK
  have hZ : Z.Warmed39 (K.s.setVm vm0).vm := X4
  subst hst
  obtain ⟨cq, q1, q2⟩ := E.cell
  obtain ⟨mk, me, hn, hm, hst', hab⟩ := Cond.instanceMethod_spec (mvT (args := K.as) hZ w2)
  obtain ⟨me', cM, hm', -, -, -, -, -, -, hsig⟩ := Cond.code_spec hn (mvT (args := K.as) hZ w4)
  cases hm.symm.trans hm'
  obtain ⟨ci, ki, i1, i2, -, i4, -⟩ := Cond.instantiable_spec (mvT (args := K.as) hZ w3)
  obtain rfl : ci = mk.cls := Option.some.inj (i1.symm.trans (findClass_of_methodNamed hn))
  have i5 : ki.isInterface = false := by cases q : ki.isInterface <;> simp [q] at i4 ⊢
  have hsel : selectMethod K.e.platform (K.s.setVm vm0).vm cq.cls mk = .method mk := selectMethod_private hm (Cond.privateMethod_at (mvP hZ w5 (args := #[])) mk me hn hm)
  obtain ⟨vm1, Y1, st1⟩ := X1.invokevirtual hx hown (mvT hZ w1) hn hm hst' i2 i5 hy (a := a) (cell := cq) (by rw [X7]; exact q1) q2 hsel hm hab i2 i5 (g := mkF K.m pc L (argsL.reverse ++ .ref a :: rest)) rfl (argsL := argsL) (rest := rest) (hlen _ hsig) rfl hd
  obtain ⟨v, B, Y, hS, hg, hp, st2⟩ := hC K.p K.e K.bl K.s K.as vm0 X4 hEL X5.1 (fun x hx => X6 x (hsub x hx)) X10 K.m K.me K.c ⟨T.setVm vm1, locs, cl, sl⟩ (mkF K.m pc L rest) (.invokevirtual index) mk (.ref a :: argsL).toArray Y1 rfl hsz hd (by show 2 * 0 + (rest.map fun v => v.category).sum ≤ Wt; omega) (Y1.named hn) ⟨rfl, X7, hc, hs⟩
  replace hg : h.size ≤ B.U.heap.size := by rw [← X7]; exact hg
  obtain ⟨hq, Y'⟩ := St.back hK X2 X3 X4 X5 X6 X8 X9 Y hS hg hp
  obtain ⟨s2, v', Lo, g, r⟩ := k v _ hq hg B.U Y'
  exact ⟨s2, v', Lo, st1 _ fun acts => by rw [doInvoke_state]; exact st2.trans g, r⟩
theorem nfS {C : String} (w3 : (Jvm.Cond.selects C y y).before a0 Z = true) : ∀ s : State, Z.Warmed39 s.vm → NotFace s y := fun s hZ => notFace_of_selects (args := #[]) (mvT hZ w3)
end Calls
section Single
variable {Z : State} {EL : List (String × Nat)} {nI : Bool} {a0 : Array Value} {l : Launch} {own nm : String} {bytes : ByteArray} {ml : Nat} {ret : Option FieldType} {R : Room} {K : Kx} {Q : Option Value → Heap → Prop} {W : List Addr} {h : Heap} {cl sl pc pc' index : Nat} {L L' : Array Slot} {S rest : List Value} {a : Addr} {C : String} {ty : FieldType}
theorem Run.new (hK : Ok Z EL a0 l own nm bytes ml ret R K) {n : Nat} (w : (Jvm.Cond.classLink own index C).before a0 Z = true) (wi : (Jvm.Cond.instantiable C n).before a0 Z = true) (wz : (Jvm.Cond.initialized C).before a0 Z = true) (hd : decode bytes pc = .ok (.new index, 3)) (hc : cl + 1 ≤ R.cells) (hl : sl + n ≤ R.slots)
    (k : ∀ h', Ext h h' → Exa Z h' h.size C → (∀ {O f d : String} {ty : FieldType}, Laid Z a0 C O f d → parseFieldDescriptor d = some ty → Fld Z h' h.size O f d (defaultValue ty)) → Run Z EL nI K Q (h.size :: W) h' (cl + 1) (sl + n) (pc + 3) L (.ref h.size :: S)) : Run Z EL nI K Q W h cl sl pc L S := by
  obtain ⟨hx, rfl, rfl, rfl, rfl, -⟩ := id hK
  refine Run.grow hK (P := fun h' => Exa Z h' h.size C ∧ (∀ {O f d : String} {ty : FieldType}, Laid Z a0 C O f d → parseFieldDescriptor d = some ty → Fld Z h' h.size O f d (defaultValue ty))) (fun T vm0 locs X hZ hown e => ?_) (fun h' E P => k h' E P.1 P.2)
  obtain ⟨T', h', X', e', E', A', D', -, st⟩ := newO X hx hZ hown w wi wz e (g := mkF K.m pc L S) rfl hd hc hl
  exact ⟨T', h', X', e', E', A'.lt, ⟨A', D'⟩, st⟩
theorem Run.newarr (hK : Ok Z EL a0 l own nm bytes ml ret R K) {aty : ArrayType} (w : (Jvm.Cond.arrayClass (newarray.typeOf aty)).before a0 Z = true) {n : Int32} (hd : decode bytes pc = .ok (.newarray aty, 2)) (hn : ¬ n < 0) {cap : Nat} (hcap : n.toNatClampNeg ≤ cap) (hb : cap * 8 ≤ 536870912) (hc : cl + 1 ≤ R.cells) (hl : sl + cap ≤ R.slots)
    (k : ∀ h' cA, Ext h h' → Arv Z h' h.size cA (newarray.typeOf aty) n [] (defaultValue (newarray.typeOf aty)) → Run Z EL nI K Q (h.size :: W) h' (cl + 1) (sl + cap) (pc + 2) L (.ref h.size :: rest)) : Run Z EL nI K Q W h cl sl pc L (.int n :: rest) := by
  obtain ⟨hx, rfl, rfl, rfl, rfl, -⟩ := id hK
  refine Run.grow hK (P := fun h' => ∃ cA, Arv Z h' h.size cA (newarray.typeOf aty) n [] (defaultValue (newarray.typeOf aty))) (fun T vm0 locs X hZ hown e => ?_) (fun h' E ⟨cA, P⟩ => k h' cA E P)
  obtain ⟨T', h', cA, X', e', E', A', st⟩ := newP X hx hZ w e (g := mkF K.m pc L (.int n :: rest)) rfl hd rfl hn hcap hb hc hl
  exact ⟨T', h', X', e', E', A'.lt, ⟨cA, Arv.new A' hn⟩, st⟩
theorem Run.getf (hK : Ok Z EL a0 l own nm bytes ml ret R K) {R0 O n d host : String} (w : (Jvm.Cond.fieldLink own index R0 n d).before a0 Z = true ∨ (Jvm.Cond.fieldLinkNest own index R0 n d host).before a0 Z = true) (via : Via Z R0 O n d) {v : Value} (F : Fld Z h a O n d v) (hd : decode bytes pc = .ok (.getfield index, 3))
    (k : Run Z EL nI K Q W h cl sl (pc + 3) L (v :: rest)) : Run Z EL nI K Q W h cl sl pc L (.ref a :: rest) := by
  obtain ⟨hx, rfl, rfl, rfl, rfl, -⟩ := id hK
  refine Run.same hK (fun T vm0 locs X hZ hown e => ?_) k
  exact getF X hx hZ hown w via e F (g := mkF K.m pc L (.ref a :: rest)) rfl rfl hd
theorem Run.gets (hK : Ok Z EL a0 l own nm bytes ml ret R K) {R0 O n d : String} (w : (Jvm.Cond.fieldLink own index R0 n d).before a0 Z = true) (via : Via Z R0 O n d) {v : Value} (F : Sta Z h O n d v) (hd : decode bytes pc = .ok (.getstatic index, 3))
    (k : Run Z EL nI K Q W h cl sl (pc + 3) L (v :: S)) : Run Z EL nI K Q W h cl sl pc L S := by
  obtain ⟨hx, rfl, rfl, rfl, rfl, -⟩ := id hK
  refine Run.same hK (fun T vm0 locs X hZ hown e => ?_) k
  exact getS (host := "") X hx hZ hown w via e F (g := mkF K.m pc L S) rfl hd
theorem Run.putf (hK : Ok Z EL a0 l own nm bytes ml ret R K) {R0 O n d host : String} {kk : Nat} (w : (Jvm.Cond.fieldLink own index R0 n d).before a0 Z = true ∨ (Jvm.Cond.fieldLinkNest own index R0 n d host).before a0 Z = true) (via : Via Z R0 O n d) {v old : Value} (F : Fld Z h a O n d old) (E : Exa Z h a C)
    (Lf : (Jvm.Cond.lays C O n d).before a0 Z = true ∨ ((Jvm.Cond.laysFinal C O n d).before a0 Z = true ∧ own = O ∧ nm = "<init>")) (wi : (Jvm.Cond.instantiable C kk).before a0 Z = true) (hty : parseFieldDescriptor d = some ty) (hn : narrow ty v = v) (hf : fits ty v = true) (ha : Z.heap.size ≤ a) (hs : Sf Z EL W h a) (hd : decode bytes pc = .ok (.putfield index, 3))
    (k : ∀ h', Wr h h' a (Jvm.RoadKit.slotOf Z O n d) v → Run Z EL nI K Q W h' cl sl (pc + 3) L rest) : Run Z EL nI K Q W h cl sl pc L (v :: .ref a :: rest) := by
  obtain ⟨hx, rfl, rfl, rfl, rfl, -, -, hnm, -⟩ := id hK
  refine Run.write hK ha hs (fun T vm0 locs X hZ hown e => ?_) k
  exact putF X hx hZ hown w via e F E (Lf.imp id fun q => ⟨q.1, q.2.1, hnm.trans q.2.2⟩) wi hty hn hf (g := mkF K.m pc L (v :: .ref a :: rest)) rfl rfl hd
theorem Run.initobj (hK : Ok Z EL a0 l own nm bytes ml ret R K) (w1 : (Jvm.Cond.methodLink own index Lib.objectInit).before a0 Z = true) (w2 : (Jvm.Cond.instanceMethod Lib.objectInit).before a0 Z = true) (w3 : (Jvm.Cond.code Lib.objectInit ⟨#[0xb1]⟩ 1 none).before a0 Z = true) (hsz : L.size = ml) (hd : decode bytes pc = .ok (.invokespecial index, 3))
    (hf : 1 ≤ R.frames) {Wt : Nat} (hW : (rest.map fun v => v.category).sum ≤ Wt) (hl : Wt + 12 ≤ R.locals) (k : Run Z EL nI K Q W h cl sl (pc + 3) L rest) : Run Z EL nI K Q W h cl sl pc L (.ref a :: rest) := by
  obtain ⟨hx, rfl, rfl, rfl, rfl, -⟩ := id hK
  refine Run.same hK (fun T vm0 locs X hZ hown e => ?_) k
  exact initO X hx hZ hown w1 w2 w3 e (g := mkF K.m pc L (.ref a :: rest)) rfl hsz rfl hd hf (W := Wt) (by show 2 * 0 + _ ≤ _; omega) hl
theorem Run.ldci (hK : Ok Z EL a0 l own nm bytes ml ret R K) {v : Int32} (w : (Jvm.Cond.constant own index v).before a0 Z = true) (hd : decode bytes pc = .ok (.ldc index, 2)) (k : Run Z EL nI K Q W h cl sl (pc + 2) L (.int v :: S)) : Run Z EL nI K Q W h cl sl pc L S := by
  obtain ⟨hx, rfl, rfl, rfl, rfl, -⟩ := id hK
  refine Run.same hK (fun T vm0 locs X hZ hown e => ⟨T, X, e, ?_⟩) k
  exact X.ldcInt hx hown (mvT hZ w) (g := mkF K.m pc L S) rfl hd
theorem Run.ldcl (hK : Ok Z EL a0 l own nm bytes ml ret R K) {v : Int64} (w : (Jvm.Cond.constantLong own index v).before a0 Z = true) (hd : decode bytes pc = .ok (.ldc2_w index, 3)) (k : Run Z EL nI K Q W h cl sl (pc + 3) L (.long v :: S)) : Run Z EL nI K Q W h cl sl pc L S := by
  obtain ⟨hx, rfl, rfl, rfl, rfl, -⟩ := id hK
  refine Run.same hK (fun T vm0 locs X hZ hown e => ⟨T, X, e, ?_⟩) k
  exact X.ldc2Long hx hown (mvT hZ w) (g := mkF K.m pc L S) rfl hd
theorem Run.alen (hK : Ok Z EL a0 l own nm bytes ml ret R K) {k0 : ClassId} {z : Int32} {vs : List Value} {dv : Value} (A : Arv Z h a k0 ty z vs dv) (hd : decode bytes pc = .ok (.arraylength, 1)) (k : Run Z EL nI K Q W h cl sl (pc + 1) L (.int z :: rest)) : Run Z EL nI K Q W h cl sl pc L (.ref a :: rest) := by
  obtain ⟨hx, rfl, rfl, rfl, rfl, -⟩ := id hK
  obtain ⟨c0, A1, -, A3, A4, -⟩ := A
  refine Run.same hK (fun T vm0 locs X hZ hown e => ⟨T, X, e, fun t st => ?_⟩) k
  refine X.arraylength hx (by rw [e]; exact A1.1) (State.isArrayOf_alike hZ.alike A1.2.1) (g := mkF K.m pc L (.ref a :: rest)) rfl rfl hd _ ?_
  rw [len_of A3 A4]; exact st
/-- what lies at a place of an array -/
theorem arv_at {k0 : ClassId} {z : Int32} {vs : List Value} {dv : Value} (A : Arv Z h a k0 ty z vs dv) {j : Int32} (hj : ¬ j < 0 ∧ j < z) : ∃ c : Cell, Arr Z h a c ty ∧ ¬ (j < 0 ∨ c.slots.size ≤ j.toNatClampNeg) ∧ c.slots[j.toNatClampNeg]? = some (vs.getD j.toNatClampNeg dv) := by
  obtain ⟨c0, A1, -, A3, A4, A5, -⟩ := A
  have hin := inb_of A3 hj
  exact ⟨c0, A1, hin, A5 _ (Nat.lt_of_not_le fun q => hin (Or.inr q))⟩
theorem Run.ald (hK : Ok Z EL a0 l own nm bytes ml ret R K) {k0 : ClassId} {z : Int32} {vs : List Value} {dv v : Value} {j : Int32} {i : Instr} (A : Arv Z h a k0 ty z vs dv) (hi : (i = .caload ∧ ty = .char) ∨ (i = .iaload ∧ ty = .int) ∨ (i = .baload ∧ ty = .byte) ∨ (i = .laload ∧ ty = .long)) (hj : ¬ j < 0 ∧ j < z) (hv : vs.getD j.toNatClampNeg dv = v) (hd : decode bytes pc = .ok (i, 1))
    (k : Run Z EL nI K Q W h cl sl (pc + 1) L (v :: rest)) : Run Z EL nI K Q W h cl sl pc L (.int j :: .ref a :: rest) := by
  obtain ⟨hx, rfl, rfl, rfl, rfl, -⟩ := id hK
  obtain ⟨c0, A1, hin, hat⟩ := arv_at A hj
  rw [hv] at hat
  refine Run.same hK (fun T vm0 locs X hZ hown e => ⟨T, X, e, fun t st => ?_⟩) k
  have q1 : T.heap[a]? = some c0 := by rw [e]; exact A1.1
  have q2 := State.isArrayOf_alike hZ.alike A1.2.1
  rcases hi with ⟨rfl, rfl⟩ | ⟨rfl, rfl⟩ | ⟨rfl, rfl⟩ | ⟨rfl, rfl⟩
  · exact X.caload hx q1 q2 A1.2.2 hin hat (g := mkF K.m pc L (.int j :: .ref a :: rest)) rfl rfl hd _ st
  · exact X.iaload hx q1 q2 A1.2.2 hin hat (g := mkF K.m pc L (.int j :: .ref a :: rest)) rfl rfl hd _ st
  · exact X.baloadBytes hx q1 q2 A1.2.2 hin hat (g := mkF K.m pc L (.int j :: .ref a :: rest)) rfl rfl hd _ st
  · exact X.laload hx q1 q2 A1.2.2 hin hat (g := mkF K.m pc L (.int j :: .ref a :: rest)) rfl rfl hd _ st
theorem Run.aald (hK : Ok Z EL a0 l own nm bytes ml ret R K) {c0 : Cell} {j : Int32} {v : Value} (A : Arr Z h a c0 ty) (hty : ty.isReference = true) (hin : ¬ (j < 0 ∨ c0.slots.size ≤ j.toNatClampNeg)) (hat : c0.slots[j.toNatClampNeg]? = some v) (hd : decode bytes pc = .ok (.aaload, 1))
    (k : Run Z EL nI K Q W h cl sl (pc + 1) L (v :: rest)) : Run Z EL nI K Q W h cl sl pc L (.int j :: .ref a :: rest) := by
  obtain ⟨hx, rfl, rfl, rfl, rfl, -⟩ := id hK
  refine Run.same hK (fun T vm0 locs X hZ hown e => ⟨T, X, e, fun t st => ?_⟩) k
  exact X.aaload hx (by rw [e]; exact A.1) (State.isArrayOf_alike hZ.alike A.2.1) hty A.2.2 hin hat (g := mkF K.m pc L (.int j :: .ref a :: rest)) rfl rfl hd _ st
/-- an array's value list, a place written: the list is padded where it was short -/
def setv (vs : List Value) (n i : Nat) (dv v : Value) : List Value := (vs ++ List.replicate (n - vs.length) dv).set i v
theorem arv_set {k0 : ClassId} {z : Int32} {vs : List Value} {dv v : Value} (A : Arv Z h a k0 ty z vs dv) {j : Int32} (hj : ¬ j < 0 ∧ j < z) (hv : fits ty v = true) {h' : Heap} (Wt : Wr h h' a j.toNatClampNeg v) : Arv Z h' a k0 ty z (setv vs z.toNatClampNeg j.toNatClampNeg dv v) dv := by
  obtain ⟨c0, A1, A2, A3, A4, A5, A6⟩ := A.pad (pad_rep vs dv (z.toNatClampNeg - vs.length))
  have hin := inb_of A3 hj
  have hlt : j.toNatClampNeg < z.toNatClampNeg := by rw [← A3]; exact Nat.lt_of_not_le fun q => hin (Or.inr q)
  refine Arv.set A1 A2 A3 A4 A5 A6 hv Wt _ rfl ?_
  simp only [List.length_append, List.length_replicate]; omega
theorem Run.cst (hK : Ok Z EL a0 l own nm bytes ml ret R K) {k0 : ClassId} {z : Int32} {vs : List Value} {dv : Value} {j x : Int32} (A : Arv Z h a k0 .char z vs dv) (hj : ¬ j < 0 ∧ j < z) (ha : Z.heap.size ≤ a) (hd : decode bytes pc = .ok (.castore, 1))
    (k : ∀ h', Wr h h' a j.toNatClampNeg (.int (nar .char x)) → Arv Z h' a k0 .char z (setv vs z.toNatClampNeg j.toNatClampNeg dv (.int (nar .char x))) dv → Run Z EL nI K Q W h' cl sl (pc + 1) L rest) : Run Z EL nI K Q W h cl sl pc L (.int x :: .int j :: .ref a :: rest) := by
  obtain ⟨hx, rfl, rfl, rfl, rfl, -⟩ := id hK
  obtain ⟨c0, A1, hin, hat⟩ := arv_at A hj
  refine Run.write hK ha (sfA A (by decide)) (fun T vm0 locs X hZ hown e => ?_) (fun h' Wt => k h' Wt (arv_set A hj (fits_nar_char x) Wt))
  exact stC X hx hZ e A1 hin (g := mkF K.m pc L (.int x :: .int j :: .ref a :: rest)) rfl rfl hd
theorem Run.ist (hK : Ok Z EL a0 l own nm bytes ml ret R K) {k0 : ClassId} {z : Int32} {vs : List Value} {dv : Value} {j x : Int32} (A : Arv Z h a k0 .int z vs dv) (hj : ¬ j < 0 ∧ j < z) (ha : Z.heap.size ≤ a) (hd : decode bytes pc = .ok (.iastore, 1))
    (k : ∀ h', Wr h h' a j.toNatClampNeg (.int x) → Arv Z h' a k0 .int z (setv vs z.toNatClampNeg j.toNatClampNeg dv (.int x)) dv → Run Z EL nI K Q W h' cl sl (pc + 1) L rest) : Run Z EL nI K Q W h cl sl pc L (.int x :: .int j :: .ref a :: rest) := by
  obtain ⟨hx, rfl, rfl, rfl, rfl, -⟩ := id hK
  obtain ⟨c0, A1, hin, hat⟩ := arv_at A hj
  refine Run.write hK ha (sfA A (by decide)) (fun T vm0 locs X hZ hown e => ?_) (fun h' Wt => k h' Wt (arv_set A hj rfl Wt))
  exact stI X hx hZ e A1 hin (g := mkF K.m pc L (.int x :: .int j :: .ref a :: rest)) rfl rfl hd
theorem Run.lst (hK : Ok Z EL a0 l own nm bytes ml ret R K) {k0 : ClassId} {z : Int32} {vs : List Value} {dv : Value} {j : Int32} {x : Int64} (A : Arv Z h a k0 .long z vs dv) (hj : ¬ j < 0 ∧ j < z) (ha : Z.heap.size ≤ a) (hd : decode bytes pc = .ok (.lastore, 1))
    (k : ∀ h', Wr h h' a j.toNatClampNeg (.long x) → Arv Z h' a k0 .long z (setv vs z.toNatClampNeg j.toNatClampNeg dv (.long x)) dv → Run Z EL nI K Q W h' cl sl (pc + 1) L rest) : Run Z EL nI K Q W h cl sl pc L (.long x :: .int j :: .ref a :: rest) := by
  obtain ⟨hx, rfl, rfl, rfl, rfl, -⟩ := id hK
  obtain ⟨c0, A1, hin, hat⟩ := arv_at A hj
  refine Run.write hK ha (sfA A (by decide)) (fun T vm0 locs X hZ hown e => ?_) (fun h' Wt => k h' Wt (arv_set A hj rfl Wt))
  exact stJ X hx hZ e A1 hin (g := mkF K.m pc L (.long x :: .int j :: .ref a :: rest)) rfl rfl hd
theorem Run.bst (hK : Ok Z EL a0 l own nm bytes ml ret R K) {k0 : ClassId} {z : Int32} {vs : List Value} {dv : Value} {j x : Int32} (A : Arv Z h a k0 .byte z vs dv) (hj : ¬ j < 0 ∧ j < z) (ha : Z.heap.size ≤ a) (hs : Sf Z EL W h a) (hd : decode bytes pc = .ok (.bastore, 1))
    (k : ∀ h', Wr h h' a j.toNatClampNeg (.int (nar .byte x)) → Arv Z h' a k0 .byte z (setv vs z.toNatClampNeg j.toNatClampNeg dv (.int (nar .byte x))) dv → Run Z EL nI K Q W h' cl sl (pc + 1) L rest) : Run Z EL nI K Q W h cl sl pc L (.int x :: .int j :: .ref a :: rest) := by
  obtain ⟨hx, rfl, rfl, rfl, rfl, -⟩ := id hK
  obtain ⟨c0, A1, hin, hat⟩ := arv_at A hj
  refine Run.write hK ha hs (fun T vm0 locs X hZ hown e => ?_) (fun h' Wt => k h' Wt (arv_set A hj (fits_nar_byte x) Wt))
  exact stB X hx hZ e A1 hin (g := mkF K.m pc L (.int x :: .int j :: .ref a :: rest)) rfl rfl hd
/-- System.arraycopy between two arrays of one primitive kind -/
theorem Run.cpy (hK : Ok Z EL a0 l own nm bytes ml ret R K) (w1 : (Jvm.Cond.methodLink own index Jvm.Stand.acN).before a0 Z = true) (w2 : (Jvm.Cond.native Jvm.Stand.acN).before a0 Z = true) (w3 : (Jvm.Cond.static Jvm.Stand.acN).before a0 Z = true) (w4 : (Jvm.Cond.initialized "java/lang/System").before a0 Z = true)
    {b : Addr} {k1 k2 : ClassId} {z z' sp dp nn : Int32} {vs vd us : List Value} {dv dd : Value} (A : Arv Z h a k1 ty z vs dv) (B : Arv Z h b k2 ty z' vd dd) (hty : refKind ty = false) (h1 : ¬ sp < 0) (h2 : ¬ dp < 0) (h3 : ¬ nn < 0) (h4 : sp.toNatClampNeg + nn.toNatClampNeg ≤ z.toNatClampNeg) (h5 : dp.toNatClampNeg + nn.toNatClampNeg ≤ z'.toNatClampNeg)
    (hus : us = (List.range nn.toNatClampNeg).map fun i => vs.getD (sp.toNatClampNeg + i) dv) (hl : dp.toNatClampNeg + nn.toNatClampNeg ≤ vd.length) (ge : Z.heap.size ≤ b) (hs : Sf Z EL W h b) (hsz : L.size = ml) (hd : decode bytes pc = .ok (.invokestatic index, 3)) (hf : 1 ≤ R.frames) {Wt : Nat} (hW : (rest.map fun v => v.category).sum ≤ Wt) (hlo : Wt + 18 ≤ R.locals)
    (k : ∀ h', Keep h h' [b] → Arv Z h' b k2 ty z' (vd.take dp.toNatClampNeg ++ us ++ vd.drop (dp.toNatClampNeg + nn.toNatClampNeg)) dd → Run Z EL nI K Q W h' cl sl (pc + 3) L rest) : Run Z EL nI K Q W h cl sl pc L (.int nn :: .int dp :: .ref b :: .int sp :: .ref a :: rest) := fun T X => by
  obtain ⟨vm0, k0, locs, X1, X2, X3, X4, X5, X6, X7, X8, X9, X10⟩ := X
  have hown := hK.fc X2
  obtain ⟨hx, rfl, rfl, rfl, rfl, -⟩ := id hK
  obtain ⟨T', h', L', Y, eY, N, Kp, B', st⟩ := cpA X1 hx (show Z.Warmed39 (K.s.setVm vm0).vm from X4) hown w1 w2 w3 w4 X7 A B (Or.inl ⟨rfl, hty⟩) h1 h2 h3 h4 h5 hus hl X8 ge (g := mkF K.m pc L (.int nn :: .int dp :: .ref b :: .int sp :: .ref a :: rest)) rfl hsz rfl hd hf (W := Wt) (by show 2 * 0 + _ ≤ _; omega) hlo
  have hws : ∀ x ∈ [b], Safe Z EL vm0 h x := fun x hx => by cases List.mem_singleton.mp hx; exact hs vm0 X4 X6
  have C := CHr.keep Kp hws X5.1
  obtain ⟨s2, v, Lo, g, r⟩ := k h' Kp B' T' ⟨vm0, k0, L', Y, X2, Nat.le_trans X3 Kp.1, X4, X5.trans C, fun x hx => ⟨Nat.lt_of_lt_of_le (X6 x hx).1 Kp.1, C.safe (X6 x hx).1 (X6 x hx).2⟩, eY, N, X9, (Old.keep (Z := Z) (n0 := Z.heap.size) ⟨rfl, X10⟩ Kp (fun x hx => by cases List.mem_singleton.mp hx; exact ge)).2⟩
  exact ⟨s2, v, Lo, st _ g, r⟩
/-- ldc of a String constant of EL -/
theorem Run.ldcs (hK : Ok Z EL a0 l own nm bytes ml ret R K) (hnI : nI = false) {text : String} (w : (Jvm.Cond.stringLink own index text).before a0 Z = true) (wS : ∀ d ∈ Bundle.stringAtoms, d.before a0 Z = true) (hmem : (own, index) ∈ EL)
    {vs : List Value} {z : Int32} (ht : (∀ c ∈ text.toList, c.toNat < 256) ∧ text.toList.map (fun c => Value.int (Jvm.Lit.byteI c.toNat.toUInt16)) = vs) (hz : ¬ z < 0) (hzl : z.toNatClampNeg = vs.length) (hd : decode bytes pc = .ok (.ldc index, 2)) {n : Nat} (hn : 4 * text.toList.length ≤ n) (hbig : n ≤ 536870912) (hc : cl + 2 ≤ R.cells) (hl : sl + (n + 4) ≤ R.slots)
    (k : ∀ (h' : Heap) (x b : Addr) (kb : ClassId), Ext h h' → Exa Z h' x "java/lang/String" → Fld Z h' x "java/lang/String" "coder" "B" (.int 0) → Fld Z h' x "java/lang/String" "value" "[B" (.ref b) → Arv Z h' b kb .byte z vs (.int 0) → Run Z EL nI K Q W h' (cl + 2) (sl + (n + 4)) (pc + 2) L (.ref x :: S)) : Run Z EL nI K Q W h cl sl pc L S := fun T X => by
  obtain ⟨vm0, k0, locs, X1, X2, X3, X4, X5, X6, X7, X8, X9, X10⟩ := X
  have hown := hK.fc X2
  obtain ⟨hx, rfl, rfl, rfl, rfl, -, -, -, -, hEL⟩ := id hK
  obtain ⟨x, T', h', k1, b, kb, Y, eY, E, hS, hk1, hZ', -, f1, f2, f3, f4, f5, f6, hC, -, -, st⟩ := ldcCH X1 hx X4 hown w wS X7 X2 X3 hEL hmem X5.1 ht hz hzl (g := mkF K.m pc L S) rfl hd hn hbig hc hl
  obtain ⟨s2, v', Lo, g, r⟩ := k h' x b kb E f1 f2 f3 f4 T' ⟨T'.vm, k1, locs, Y, hS, hk1, hZ', X5.trans hC, fun y hy => ⟨Nat.lt_of_lt_of_le (X6 y hy).1 E.1, hC.safe (X6 y hy).1 (X6 y hy).2⟩, eY, X8, fun q => by (rw [hnI] at q; cases q), Nat.le_trans X10.1 E.1, fun x c q => E.2 x c (X10.2 x c q)⟩
  exact ⟨s2, v', Lo, st _ g, r⟩
/-- the ends -/
theorem Run.ends (hK : Ok Z EL a0 l own nm bytes ml ret R K) {v : Option Value} (hv : ret = none → v = none) (hc : cl ≤ R.cells) (hs : sl ≤ R.slots)
    (f : ∀ T vm0 locs fs, Stand K.p K.l K.e K.R (K.s.setVm vm0) K.m K.as K.bl K.me K.c T locs cl sl → (∀ (f : JFrame) (acts : List Action), f.method = K.m → f.locked = none → f.entered = [] → (doReturn K.e (T.setTop f) acts v).1 = T.setFrames fs) → Steps K.p.tables K.e K.bl (T.setTop (mkF K.m pc L S)) (T.setFrames fs)) (hQ : Q v h) : Run Z EL nI K Q W h cl sl pc L S := fun T X => by
  obtain ⟨vm0, k0, locs, X1, X2, X3, X4, X5, X6, X7, X8, X9, X10⟩ := X
  obtain ⟨hx, -, rfl, -, -, rfl, hlk, -, -, hEL⟩ := id hK
  obtain ⟨fs, hr, hrun, hended, hW⟩ := X1.leaveW X2 (by rw [X7]; exact X3) (v := v) hv hlk
  have hh : (T.setFrames fs).heap = h := X7
  have B := CHv.at X1 X4 hEL X5.1
  obtain ⟨w1, w2, w3, w4⟩ := hW
  refine ⟨T.setFrames fs, v, locs, f T vm0 locs fs X1 hr, hrun, hended, by rw [hh]; exact hQ, X8, by rw [hh]; exact X5.trans B, ⟨w1, w2, w3, w4.mono hc hs⟩, fun q => State.WarmedH.trans (X9 q) X1.warmed, by rw [hh]; exact X10⟩
theorem Run.retw (hK : Ok Z EL a0 l own nm bytes ml (some ty) R K) {w : Value} {i : Instr} (hn : narrow ty w = w)
    (hi : (i = .ireturn ∧ (ty = .int ∨ ty = .boolean ∨ ty = .byte ∨ ty = .char ∨ ty = .short) ∧ ∃ z, w = .int z) ∨ (i = .lreturn ∧ ty = .long ∧ ∃ z, w = .long z) ∨ (i = .dreturn ∧ ty = .double ∧ ∃ z, w = .double z) ∨ (i = .freturn ∧ ty = .float ∧ ∃ z, w = .float z) ∨ (i = .areturn ∧ ty.isReference = true ∧ w.isRef = true))
    (hd : decode bytes pc = .ok (i, 1)) (hc : cl ≤ R.cells) (hs : sl ≤ R.slots) (hQ : Q (some w) h) : Run Z EL nI K Q W h cl sl pc L (w :: rest) :=
  Run.ends hK (v := some w) (fun q => by cases q) hc hs (fun T vm0 locs fs X hr => by
    obtain ⟨hx, rfl, rfl, rfl, rfl, hrt, -⟩ := id hK
    exact retOut X hx hrt hn hi hd hr) hQ
theorem Run.retv (hK : Ok Z EL a0 l own nm bytes ml none R K) (hd : decode bytes pc = .ok (.return_, 1)) (hc : cl ≤ R.cells) (hs : sl ≤ R.slots) (hQ : Q none h) : Run Z EL nI K Q W h cl sl pc L [] :=
  Run.ends hK (v := none) (fun _ => rfl) hc hs (fun T vm0 locs fs X hr => by
    obtain ⟨hx, rfl, rfl, rfl, rfl, hrt, -⟩ := id hK
    exact X.returnOut hx hrt hd hr) hQ
end Single
/-! plain steps, by evaluation -/
abbrev Fr3 : Type := Nat × Array Slot × List Value
def ldI (len n pc : Nat) (L : Array Slot) (S : List Value) (k : Nat) : Option Fr3 := if len = n then (match L[k]? with | some (.val (.int v)) => some (pc + n, L, .int v :: S) | _ => none) else none
def ldJ (len n pc : Nat) (L : Array Slot) (S : List Value) (k : Nat) : Option Fr3 := if len = n then (match L[k]? with | some (.val (.long v)) => some (pc + n, L, .long v :: S) | _ => none) else none
def ldA (len n pc : Nat) (L : Array Slot) (S : List Value) (k : Nat) : Option Fr3 := if len = n then (match L[k]? with | some (.val (.ref v)) => some (pc + n, L, .ref v :: S) | some (.val .null) => some (pc + n, L, .null :: S) | _ => none) else none
def stI' (len n pc : Nat) (L : Array Slot) (S : List Value) (k : Nat) : Option Fr3 := if len = n then (match S with | .int v :: r => (match storeLocals L k (.int v) with | some L' => some (pc + n, L', r) | none => none) | _ => none) else none
def stJ' (len n pc : Nat) (L : Array Slot) (S : List Value) (k : Nat) : Option Fr3 := if len = n then (match S with | .long v :: r => (match storeLocals L k (.long v) with | some L' => some (pc + n, L', r) | none => none) | _ => none) else none
def stA' (len n pc : Nat) (L : Array Slot) (S : List Value) (k : Nat) : Option Fr3 := if len = n then (match S with | .ref v :: r => (match storeLocals L k (.ref v) with | some L' => some (pc + n, L', r) | none => none) | .null :: r => (match storeLocals L k .null with | some L' => some (pc + n, L', r) | none => none) | _ => none) else none
def cst (len n pc : Nat) (L : Array Slot) (S : List Value) (v : Value) : Option Fr3 := if len = n then some (pc + n, L, v :: S) else none
def bI (len pc : Nat) (L : Array Slot) (S : List Value) (f : Int32 → Int32 → Int32) : Option Fr3 := if len = 1 then (match S with | .int y :: .int x :: r => some (pc + 1, L, .int (f x y) :: r) | _ => none) else none
def bI0 (len pc : Nat) (L : Array Slot) (S : List Value) (f : Int32 → Int32 → Int32) : Option Fr3 := if len = 1 then (match S with | .int y :: .int x :: r => if y = 0 then none else some (pc + 1, L, .int (f x y) :: r) | _ => none) else none
def bJ (len pc : Nat) (L : Array Slot) (S : List Value) (f : Int64 → Int64 → Int64) : Option Fr3 := if len = 1 then (match S with | .long y :: .long x :: r => some (pc + 1, L, .long (f x y) :: r) | _ => none) else none
def bJ0 (len pc : Nat) (L : Array Slot) (S : List Value) (f : Int64 → Int64 → Int64) : Option Fr3 := if len = 1 then (match S with | .long y :: .long x :: r => if y = 0 then none else some (pc + 1, L, .long (f x y) :: r) | _ => none) else none
def bS (len pc : Nat) (L : Array Slot) (S : List Value) (f : Int64 → Int32 → Int64) : Option Fr3 := if len = 1 then (match S with | .int y :: .long x :: r => some (pc + 1, L, .long (f x y) :: r) | _ => none) else none
def uI (len pc : Nat) (L : Array Slot) (S : List Value) (f : Int32 → Value) : Option Fr3 := if len = 1 then (match S with | .int x :: r => some (pc + 1, L, f x :: r) | _ => none) else none
def uJ (len pc : Nat) (L : Array Slot) (S : List Value) (f : Int64 → Value) : Option Fr3 := if len = 1 then (match S with | .long x :: r => some (pc + 1, L, f x :: r) | _ => none) else none
def cJ (len pc : Nat) (L : Array Slot) (S : List Value) : Option Fr3 := if len = 1 then (match S with | .long y :: .long x :: r => some (pc + 1, L, .int (XT.cmpL x y) :: r) | _ => none) else none
def one? : Value → Bool
  | .int _ => true
  | .ref _ => true
  | .null => true
  | _ => false
theorem one_cat {v : Value} (h : one? v = true) : v.category = 1 := by cases v <;> first | rfl | cases h
def dp (len pc : Nat) (L : Array Slot) (S : List Value) : Option Fr3 := if len = 1 then (match S with | x :: r => if one? x = true then some (pc + 1, L, x :: x :: r) else none | _ => none) else none
def dpx (len pc : Nat) (L : Array Slot) (S : List Value) : Option Fr3 := if len = 1 then (match S with | x :: y :: r => if one? x = true then (if one? y = true then some (pc + 1, L, x :: y :: x :: r) else none) else none | _ => none) else none
def dp2 (len pc : Nat) (L : Array Slot) (S : List Value) : Option Fr3 := if len = 1 then (match S with | x :: y :: r => if one? x = true then (if one? y = true then some (pc + 1, L, x :: y :: x :: y :: r) else none) else none | _ => none) else none
def pp (len pc : Nat) (L : Array Slot) (S : List Value) : Option Fr3 := if len = 1 then (match S with | x :: r => if one? x = true then some (pc + 1, L, r) else none | _ => none) else none
def inc (len pc : Nat) (L : Array Slot) (S : List Value) (k : Nat) (c : Int) : Option Fr3 := if len = 3 then (match L[k]? with | some (.val (.int v)) => (match storeLocals L k (.int (v + Int32.ofInt c)) with | some L' => some (pc + 3, L', S) | none => none) | _ => none) else none
def jmp (len pc : Nat) (L : Array Slot) (S : List Value) (o : Int) : Option Fr3 := if len = 3 then (if 0 ≤ (pc : Int) + o then some (((pc : Int) + o).toNat, L, S) else none) else none
def stp (i : Instr) (len pc : Nat) (L : Array Slot) (S : List Value) : Option Fr3 :=
  match i with
  | .iload_n k => ldI len 1 pc L S k.val
  | .iload k => ldI len 2 pc L S k
  | .lload_n k => ldJ len 1 pc L S k.val
  | .lload k => ldJ len 2 pc L S k
  | .aload_n k => ldA len 1 pc L S k.val
  | .aload k => ldA len 2 pc L S k
  | .istore_n k => stI' len 1 pc L S k.val
  | .istore k => stI' len 2 pc L S k
  | .lstore_n k => stJ' len 1 pc L S k.val
  | .lstore k => stJ' len 2 pc L S k
  | .astore_n k => stA' len 1 pc L S k.val
  | .astore k => stA' len 2 pc L S k
  | .iconst c => cst len 1 pc L S (.int (Int32.ofInt c))
  | .bipush c => cst len 2 pc L S (.int (Int8.ofInt c).toInt32)
  | .sipush c => cst len 3 pc L S (.int (Int16.ofInt c).toInt32)
  | .aconst_null => cst len 1 pc L S .null
  | .lconst k => cst len 1 pc L S (.long (Int64.ofNat k))
  | .iadd => bI len pc L S (· + ·)
  | .isub => bI len pc L S (· - ·)
  | .imul => bI len pc L S (· * ·)
  | .iand => bI len pc L S (· &&& ·)
  | .ior => bI len pc L S (· ||| ·)
  | .ixor => bI len pc L S (· ^^^ ·)
  | .ishl => bI len pc L S (fun x y => x <<< (y &&& 31))
  | .ishr => bI len pc L S (fun x y => x >>> (y &&& 31))
  | .iushr => bI len pc L S XT.ushr
  | .irem => bI0 len pc L S (· % ·)
  | .idiv => bI0 len pc L S (· / ·)
  | .ineg => uI len pc L S (fun x => .int (-x))
  | .ladd => bJ len pc L S (· + ·)
  | .lsub => bJ len pc L S (· - ·)
  | .land => bJ len pc L S (· &&& ·)
  | .lor => bJ len pc L S (· ||| ·)
  | .lushr => bS len pc L S XT.ushrL
  | .lshl => bS len pc L S (fun x y => x <<< (y.toInt64 &&& 63))
  | .lrem => bJ0 len pc L S (fun x y => x - (x / y) * y)
  | .i2l => uI len pc L S (fun x => .long x.toInt64)
  | .l2i => uJ len pc L S (fun x => .int x.toInt32)
  | .i2b => uI len pc L S (fun x => .int x.toInt8.toInt32)
  | .i2c => uI len pc L S (fun x => .int x.toUInt32.toUInt16.toUInt32.toInt32)
  | .lcmp => cJ len pc L S
  | .dup => dp len pc L S
  | .dup_x1 => dpx len pc L S
  | .dup2 => dp2 len pc L S
  | .pop => pp len pc L S
  | .iinc k c => inc len pc L S k c
  | .goto o => jmp len pc L S o
  | _ => none
def stq : List (Nat × Instr × Nat) → Nat → Array Slot → List Value → Option Fr3
  | [], pc, L, S => some (pc, L, S)
  | (p, i, len) :: r, pc, L, S => if p = pc then (match stp i len pc L S with | none => none | some (pc', L', S') => stq r pc' L' S') else none
section PlainSteps
variable {tb : Tables} [Ours tb] {e : Env} {below : List Frame} {T t : State} {m : MethodId} {c : Code} {pc pc' len : Nat} {L L' : Array Slot} {S S' : List Value} {i : Instr}
theorem ldI_s {n k : Nat} {r : Fr3} (h : ldI len n pc L S k = some r) : len = n ∧ ∃ v, L[k]? = some (.val (.int v)) ∧ r = (pc + n, L, .int v :: S) := by
  unfold ldI at h
  by_cases q : len = n
  · rw [if_pos q] at h
    split at h
    · rename_i v e; cases h; exact ⟨q, v, e, rfl⟩
    · cases h
  · rw [if_neg q] at h; cases h
theorem ldJ_s {n k : Nat} {r : Fr3} (h : ldJ len n pc L S k = some r) : len = n ∧ ∃ v, L[k]? = some (.val (.long v)) ∧ r = (pc + n, L, .long v :: S) := by
  unfold ldJ at h
  by_cases q : len = n
  · rw [if_pos q] at h
    split at h
    · rename_i v e; cases h; exact ⟨q, v, e, rfl⟩
    · cases h
  · rw [if_neg q] at h; cases h
theorem ldA_s {n k : Nat} {r : Fr3} (h : ldA len n pc L S k = some r) : len = n ∧ ∃ v : Value, v.isRef = true ∧ L[k]? = some (.val v) ∧ r = (pc + n, L, v :: S) := by
  unfold ldA at h
  by_cases q : len = n
  · rw [if_pos q] at h
    split at h
    · rename_i v e; cases h; exact ⟨q, _, rfl, e, rfl⟩
    · rename_i e; cases h; exact ⟨q, _, rfl, e, rfl⟩
    · cases h
  · rw [if_neg q] at h; cases h
theorem stI_s {n k : Nat} {r : Fr3} (h : stI' len n pc L S k = some r) : len = n ∧ ∃ v S' L', S = .int v :: S' ∧ storeLocals L k (.int v) = some L' ∧ r = (pc + n, L', S') := by
  unfold stI' at h
  by_cases q : len = n
  · rw [if_pos q] at h
    split at h
    · split at h
      · rename_i e; cases h; exact ⟨q, _, _, _, rfl, e, rfl⟩
      · cases h
    · cases h
  · rw [if_neg q] at h; cases h
theorem stJ_s {n k : Nat} {r : Fr3} (h : stJ' len n pc L S k = some r) : len = n ∧ ∃ v S' L', S = .long v :: S' ∧ storeLocals L k (.long v) = some L' ∧ r = (pc + n, L', S') := by
  unfold stJ' at h
  by_cases q : len = n
  · rw [if_pos q] at h
    split at h
    · split at h
      · rename_i e; cases h; exact ⟨q, _, _, _, rfl, e, rfl⟩
      · cases h
    · cases h
  · rw [if_neg q] at h; cases h
theorem stA_s {n k : Nat} {r : Fr3} (h : stA' len n pc L S k = some r) : len = n ∧ ∃ (v : Value) (S' : List Value) (L' : Array Slot), v.isRef = true ∧ S = v :: S' ∧ storeLocals L k v = some L' ∧ r = (pc + n, L', S') := by
  unfold stA' at h
  by_cases q : len = n
  · rw [if_pos q] at h
    split at h
    · split at h
      · rename_i e; cases h; exact ⟨q, _, _, _, rfl, rfl, e, rfl⟩
      · cases h
    · split at h
      · rename_i e; cases h; exact ⟨q, _, _, _, rfl, rfl, e, rfl⟩
      · cases h
    · cases h
  · rw [if_neg q] at h; cases h
theorem cst_s {n : Nat} {v : Value} {r : Fr3} (h : cst len n pc L S v = some r) : len = n ∧ r = (pc + n, L, v :: S) := by
  unfold cst at h
  by_cases q : len = n
  · rw [if_pos q] at h; cases h; exact ⟨q, rfl⟩
  · rw [if_neg q] at h; cases h
theorem bI_s {f : Int32 → Int32 → Int32} {r : Fr3} (h : bI len pc L S f = some r) : len = 1 ∧ ∃ x y S', S = .int y :: .int x :: S' ∧ r = (pc + 1, L, .int (f x y) :: S') := by
  unfold bI at h
  by_cases q : len = 1
  · rw [if_pos q] at h
    split at h
    · cases h; exact ⟨q, _, _, _, rfl, rfl⟩
    · cases h
  · rw [if_neg q] at h; cases h
theorem bI0_s {f : Int32 → Int32 → Int32} {r : Fr3} (h : bI0 len pc L S f = some r) : len = 1 ∧ ∃ x y S', ¬ y = 0 ∧ S = .int y :: .int x :: S' ∧ r = (pc + 1, L, .int (f x y) :: S') := by
  unfold bI0 at h
  by_cases q : len = 1
  · rw [if_pos q] at h
    split at h
    · split at h
      · cases h
      · rename_i q0; cases h; exact ⟨q, _, _, _, q0, rfl, rfl⟩
    · cases h
  · rw [if_neg q] at h; cases h
theorem bJ_s {f : Int64 → Int64 → Int64} {r : Fr3} (h : bJ len pc L S f = some r) : len = 1 ∧ ∃ x y S', S = .long y :: .long x :: S' ∧ r = (pc + 1, L, .long (f x y) :: S') := by
  unfold bJ at h
  by_cases q : len = 1
  · rw [if_pos q] at h
    split at h
    · cases h; exact ⟨q, _, _, _, rfl, rfl⟩
    · cases h
  · rw [if_neg q] at h; cases h
theorem bJ0_s {f : Int64 → Int64 → Int64} {r : Fr3} (h : bJ0 len pc L S f = some r) : len = 1 ∧ ∃ x y S', ¬ y = 0 ∧ S = .long y :: .long x :: S' ∧ r = (pc + 1, L, .long (f x y) :: S') := by
  unfold bJ0 at h
  by_cases q : len = 1
  · rw [if_pos q] at h
    split at h
    · split at h
      · cases h
      · rename_i q0; cases h; exact ⟨q, _, _, _, q0, rfl, rfl⟩
    · cases h
  · rw [if_neg q] at h; cases h
theorem bS_s {f : Int64 → Int32 → Int64} {r : Fr3} (h : bS len pc L S f = some r) : len = 1 ∧ ∃ x y S', S = .int y :: .long x :: S' ∧ r = (pc + 1, L, .long (f x y) :: S') := by
  unfold bS at h
  by_cases q : len = 1
  · rw [if_pos q] at h
    split at h
    · cases h; exact ⟨q, _, _, _, rfl, rfl⟩
    · cases h
  · rw [if_neg q] at h; cases h
theorem uI_s {f : Int32 → Value} {r : Fr3} (h : uI len pc L S f = some r) : len = 1 ∧ ∃ x S', S = .int x :: S' ∧ r = (pc + 1, L, f x :: S') := by
  unfold uI at h
  by_cases q : len = 1
  · rw [if_pos q] at h
    split at h
    · cases h; exact ⟨q, _, _, rfl, rfl⟩
    · cases h
  · rw [if_neg q] at h; cases h
theorem uJ_s {f : Int64 → Value} {r : Fr3} (h : uJ len pc L S f = some r) : len = 1 ∧ ∃ x S', S = .long x :: S' ∧ r = (pc + 1, L, f x :: S') := by
  unfold uJ at h
  by_cases q : len = 1
  · rw [if_pos q] at h
    split at h
    · cases h; exact ⟨q, _, _, rfl, rfl⟩
    · cases h
  · rw [if_neg q] at h; cases h
theorem cJ_s {r : Fr3} (h : cJ len pc L S = some r) : len = 1 ∧ ∃ x y S', S = .long y :: .long x :: S' ∧ r = (pc + 1, L, .int (XT.cmpL x y) :: S') := by
  unfold cJ at h
  by_cases q : len = 1
  · rw [if_pos q] at h
    split at h
    · cases h; exact ⟨q, _, _, _, rfl, rfl⟩
    · cases h
  · rw [if_neg q] at h; cases h
theorem dp_s {r : Fr3} (h : dp len pc L S = some r) : len = 1 ∧ ∃ x S', one? x = true ∧ S = x :: S' ∧ r = (pc + 1, L, x :: x :: S') := by
  unfold dp at h
  by_cases q : len = 1
  · rw [if_pos q] at h
    split at h
    · split at h
      · rename_i q0; cases h; exact ⟨q, _, _, q0, rfl, rfl⟩
      · cases h
    · cases h
  · rw [if_neg q] at h; cases h
theorem pp_s {r : Fr3} (h : pp len pc L S = some r) : len = 1 ∧ ∃ x S', one? x = true ∧ S = x :: S' ∧ r = (pc + 1, L, S') := by
  unfold pp at h
  by_cases q : len = 1
  · rw [if_pos q] at h
    split at h
    · split at h
      · rename_i q0; cases h; exact ⟨q, _, _, q0, rfl, rfl⟩
      · cases h
    · cases h
  · rw [if_neg q] at h; cases h
theorem dpx_s {r : Fr3} (h : dpx len pc L S = some r) : len = 1 ∧ ∃ x y S', one? x = true ∧ one? y = true ∧ S = x :: y :: S' ∧ r = (pc + 1, L, x :: y :: x :: S') := by
  unfold dpx at h
  by_cases q : len = 1
  · rw [if_pos q] at h
    split at h
    · split at h
      · rename_i q0
        split at h
        · rename_i q1; cases h; exact ⟨q, _, _, _, q0, q1, rfl, rfl⟩
        · cases h
      · cases h
    · cases h
  · rw [if_neg q] at h; cases h
theorem dp2_s {r : Fr3} (h : dp2 len pc L S = some r) : len = 1 ∧ ∃ x y S', one? x = true ∧ one? y = true ∧ S = x :: y :: S' ∧ r = (pc + 1, L, x :: y :: x :: y :: S') := by
  unfold dp2 at h
  by_cases q : len = 1
  · rw [if_pos q] at h
    split at h
    · split at h
      · rename_i q0
        split at h
        · rename_i q1; cases h; exact ⟨q, _, _, _, q0, q1, rfl, rfl⟩
        · cases h
      · cases h
    · cases h
  · rw [if_neg q] at h; cases h
theorem inc_s {k : Nat} {d : Int} {r : Fr3} (h : inc len pc L S k d = some r) : len = 3 ∧ ∃ v L', L[k]? = some (.val (.int v)) ∧ storeLocals L k (.int (v + Int32.ofInt d)) = some L' ∧ r = (pc + 3, L', S) := by
  unfold inc at h
  by_cases q : len = 3
  · rw [if_pos q] at h
    split at h
    · rename_i v e
      split at h
      · rename_i e2; cases h; exact ⟨q, _, _, e, e2, rfl⟩
      · cases h
    · cases h
  · rw [if_neg q] at h; cases h
theorem jmp_s {o : Int} {r : Fr3} (h : jmp len pc L S o = some r) : len = 3 ∧ 0 ≤ (pc : Int) + o ∧ r = (((pc : Int) + o).toNat, L, S) := by
  unfold jmp at h
  by_cases q : len = 3
  · rw [if_pos q] at h
    split at h
    · rename_i q0; cases h; exact ⟨q, q0, rfl⟩
    · cases h
  · rw [if_neg q] at h; cases h
set_option maxHeartbeats 4000000 in
theorem stp_ok (h : At T m c below) (hx : tb.exec = Jvm.exec) (hd : decode c.code pc = .ok (i, len)) (hs : stp i len pc L S = some (pc', L', S')) (st : Steps tb e below (T.setTop (mkF m pc' L' S')) t) : Steps tb e below (T.setTop (mkF m pc L S)) t := by
  unfold stp at hs
  split at hs
  case h_1 => obtain ⟨rfl, v, e1, e2⟩ := ldI_s hs; cases e2; exact XS.iloadN h hx rfl hd e1 st
  case h_2 => obtain ⟨rfl, v, e1, e2⟩ := ldI_s hs; cases e2; exact XS.iload h hx rfl hd e1 st
  case h_3 => obtain ⟨rfl, v, e1, e2⟩ := ldJ_s hs; cases e2; exact XT.lloadN h hx rfl hd e1 st
  case h_4 => obtain ⟨rfl, v, e1, e2⟩ := ldJ_s hs; cases e2; exact XT.lload h hx rfl hd e1 st
  case h_5 => obtain ⟨rfl, v, e0, e1, e2⟩ := ldA_s hs; cases e2; exact XS.aloadN h hx rfl hd e1 e0 st
  case h_6 => obtain ⟨rfl, v, e0, e1, e2⟩ := ldA_s hs; cases e2; exact XS.aload h hx rfl hd e1 e0 st
  case h_7 => obtain ⟨rfl, v, S1, L1, rfl, e1, e2⟩ := stI_s hs; cases e2; exact XS.istoreN h hx rfl hd rfl e1 st
  case h_8 => obtain ⟨rfl, v, S1, L1, rfl, e1, e2⟩ := stI_s hs; cases e2; exact XS.istore h hx rfl hd rfl e1 st
  case h_9 => obtain ⟨rfl, v, S1, L1, rfl, e1, e2⟩ := stJ_s hs; cases e2; exact XT.lstoreN h hx rfl hd rfl e1 st
  case h_10 => obtain ⟨rfl, v, S1, L1, rfl, e1, e2⟩ := stJ_s hs; cases e2; exact XT.lstore h hx rfl hd rfl e1 st
  case h_11 => obtain ⟨rfl, v, S1, L1, e0, rfl, e1, e2⟩ := stA_s hs; cases e2; exact XS.astoreN h hx rfl hd rfl e0 e1 st
  case h_12 => obtain ⟨rfl, v, S1, L1, e0, rfl, e1, e2⟩ := stA_s hs; cases e2; exact XS.astore h hx rfl hd rfl e0 e1 st
  case h_13 => obtain ⟨rfl, e2⟩ := cst_s hs; cases e2; exact XS.iconst h hx rfl hd st
  case h_14 => obtain ⟨rfl, e2⟩ := cst_s hs; cases e2; exact XS.bipush h hx rfl hd st
  case h_15 => obtain ⟨rfl, e2⟩ := cst_s hs; cases e2; exact XS.sipush h hx rfl hd st
  case h_16 => obtain ⟨rfl, e2⟩ := cst_s hs; cases e2; exact XS.aconstNull h hx rfl hd st
  case h_17 => obtain ⟨rfl, e2⟩ := cst_s hs; cases e2; exact XT.lconst h hx rfl hd st
  case h_18 => obtain ⟨rfl, x, y, S1, rfl, e2⟩ := bI_s hs; cases e2; exact XS.iadd h hx rfl hd rfl st
  case h_19 => obtain ⟨rfl, x, y, S1, rfl, e2⟩ := bI_s hs; cases e2; exact XS.isub h hx rfl hd rfl st
  case h_20 => obtain ⟨rfl, x, y, S1, rfl, e2⟩ := bI_s hs; cases e2; exact XS.imul h hx rfl hd rfl st
  case h_21 => obtain ⟨rfl, x, y, S1, rfl, e2⟩ := bI_s hs; cases e2; exact XS.iand h hx rfl hd rfl st
  case h_22 => obtain ⟨rfl, x, y, S1, rfl, e2⟩ := bI_s hs; cases e2; exact XT.ior h hx rfl hd rfl st
  case h_23 => obtain ⟨rfl, x, y, S1, rfl, e2⟩ := bI_s hs; cases e2; exact XT.ixor h hx rfl hd rfl st
  case h_24 => obtain ⟨rfl, x, y, S1, rfl, e2⟩ := bI_s hs; cases e2; exact XT.ishl h hx rfl hd rfl st
  case h_25 => obtain ⟨rfl, x, y, S1, rfl, e2⟩ := bI_s hs; cases e2; exact XT.ishr h hx rfl hd rfl st
  case h_26 => obtain ⟨rfl, x, y, S1, rfl, e2⟩ := bI_s hs; cases e2; exact XT.iushr h hx rfl hd rfl st
  case h_27 => obtain ⟨rfl, x, y, S1, q0, rfl, e2⟩ := bI0_s hs; cases e2; refine XS.irem h hx rfl hd rfl q0 ?_; have q1 : x - x / y * y = x % y := irem_eq_mod x y; rw [q1]; exact st
  case h_28 => obtain ⟨rfl, x, y, S1, q0, rfl, e2⟩ := bI0_s hs; cases e2; exact XS.idiv h hx rfl hd rfl q0 st
  case h_29 => obtain ⟨rfl, x, S1, rfl, e2⟩ := uI_s hs; cases e2; exact XS.ineg h hx rfl hd rfl st
  case h_30 => obtain ⟨rfl, x, y, S1, rfl, e2⟩ := bJ_s hs; cases e2; exact XT.ladd h hx rfl hd rfl st
  case h_31 => obtain ⟨rfl, x, y, S1, rfl, e2⟩ := bJ_s hs; cases e2; exact XT.lsub h hx rfl hd rfl st
  case h_32 => obtain ⟨rfl, x, y, S1, rfl, e2⟩ := bJ_s hs; cases e2; exact XT.land h hx rfl hd rfl st
  case h_33 => obtain ⟨rfl, x, y, S1, rfl, e2⟩ := bJ_s hs; cases e2; exact XT.lor h hx rfl hd rfl st
  case h_34 => obtain ⟨rfl, x, y, S1, rfl, e2⟩ := bS_s hs; cases e2; exact XT.lushr h hx rfl hd rfl st
  case h_35 => obtain ⟨rfl, x, y, S1, rfl, e2⟩ := bS_s hs; cases e2; exact XT.lshl h hx rfl hd rfl st
  case h_36 => obtain ⟨rfl, x, y, S1, q0, rfl, e2⟩ := bJ0_s hs; cases e2; exact XT.lrem h hx rfl hd rfl q0 st
  case h_37 => obtain ⟨rfl, x, S1, rfl, e2⟩ := uI_s hs; cases e2; exact XT.i2l h hx rfl hd rfl st
  case h_38 => obtain ⟨rfl, x, S1, rfl, e2⟩ := uJ_s hs; cases e2; exact XT.l2i h hx rfl hd rfl st
  case h_39 => obtain ⟨rfl, x, S1, rfl, e2⟩ := uI_s hs; cases e2; exact XT.i2b h hx rfl hd rfl st
  case h_40 => obtain ⟨rfl, x, S1, rfl, e2⟩ := uI_s hs; cases e2; exact XT.i2c h hx rfl hd rfl st
  case h_41 => obtain ⟨rfl, x, y, S1, rfl, e2⟩ := cJ_s hs; cases e2; exact XT.lcmp h hx rfl hd rfl st
  case h_42 => obtain ⟨rfl, x, S1, q0, rfl, e2⟩ := dp_s hs; cases e2; exact XS.dup h hx rfl hd rfl (one_cat q0) st
  case h_43 => obtain ⟨rfl, x, y, S1, q0, q1, rfl, e2⟩ := dpx_s hs; cases e2; exact XT.dupX1 h hx rfl hd rfl (one_cat q0) (one_cat q1) st
  case h_44 => obtain ⟨rfl, x, y, S1, q0, q1, rfl, e2⟩ := dp2_s hs; cases e2; exact XT.dup2 h hx rfl hd rfl (one_cat q0) (one_cat q1) st
  case h_45 => obtain ⟨rfl, x, S1, q0, rfl, e2⟩ := pp_s hs; cases e2; exact XT.pop h hx rfl hd rfl (one_cat q0) st
  case h_46 => obtain ⟨rfl, v, L1, e0, e1, e2⟩ := inc_s hs; cases e2; exact XS.iinc h hx rfl hd e0 e1 st
  case h_47 => obtain ⟨rfl, q0, e2⟩ := jmp_s hs; cases e2; exact XS.goto h hx rfl rfl hd q0 rfl st
  case h_48 => cases hs
theorem stq_nil {r : Fr3} (h : stq [] pc L S = some r) : r = (pc, L, S) := (Option.some.inj h).symm
theorem stq_cons {p : Nat} {seg : List (Nat × Instr × Nat)} {r : Fr3} (h : stq ((p, i, len) :: seg) pc L S = some r) : p = pc ∧ ∃ pc1 L1 S1, stp i len pc L S = some (pc1, L1, S1) ∧ stq seg pc1 L1 S1 = some r := by
  have e : stq ((p, i, len) :: seg) pc L S = if p = pc then (match stp i len pc L S with | none => none | some (pc', L', S') => stq seg pc' L' S') else none := rfl
  rw [e] at h
  by_cases q : p = pc
  · rw [if_pos q] at h
    cases e1 : stp i len pc L S with
    | none => rw [e1] at h; cases h
    | some x => obtain ⟨pc1, L1, S1⟩ := x; rw [e1] at h; exact ⟨q, pc1, L1, S1, rfl, h⟩
  · rw [if_neg q] at h; cases h
theorem stq_ok (h : At T m c below) (hx : tb.exec = Jvm.exec) (seg : List (Nat × Instr × Nat)) : ∀ (pc : Nat) (L : Array Slot) (S : List Value), (∀ x ∈ seg, decode c.code x.1 = .ok x.2) → stq seg pc L S = some (pc', L', S') → Steps tb e below (T.setTop (mkF m pc' L' S')) t → Steps tb e below (T.setTop (mkF m pc L S)) t := by
  induction seg with
  | nil =>
    intro pc L S _ hs st
    have e := stq_nil hs
    simp only [Prod.mk.injEq] at e
    obtain ⟨rfl, rfl, rfl⟩ := e
    exact st
  | cons a r ih =>
    intro pc L S hseg hs st
    obtain ⟨p, i, len⟩ := a
    obtain ⟨rfl, pc1, L1, S1, e1, e2⟩ := stq_cons hs
    have hd := hseg _ (List.mem_cons_self ..)
    have hr := ih pc1 L1 S1 (fun x hm => hseg x (List.mem_cons_of_mem _ hm)) e2 st
    exact stp_ok h hx hd e1 hr
end PlainSteps
section Branches
variable {Z : State} {EL : List (String × Nat)} {nI : Bool} {a0 : Array Value} {l : Launch} {own nm : String} {bytes : ByteArray} {ml : Nat} {ret : Option FieldType} {R : Room} {K : Kx} {Q : Option Value → Heap → Prop} {W : List Addr} {h : Heap} {cl sl pc pc' : Nat} {L L' : Array Slot} {S S' rest : List Value} {x y : Int32} {o : Int} {a : Addr}
def segOk (bytes : ByteArray) (seg : List (Nat × Instr × Nat)) : Bool := seg.all fun x => decide (decode bytes x.1 = .ok x.2)
theorem Run.pure (hK : Ok Z EL a0 l own nm bytes ml ret R K) {seg : List (Nat × Instr × Nat)} (hseg : segOk bytes seg = true) (hs : stq seg pc L S = some (pc', L', S')) (k : Run Z EL nI K Q W h cl sl pc' L' S') : Run Z EL nI K Q W h cl sl pc L S := by
  obtain ⟨hx, rfl, rfl, rfl, rfl, -⟩ := id hK
  refine Run.step hK (fun T X t st => stq_ok X hx seg pc L S (fun x hm => ?_) hs st) k
  exact of_decide_eq_true (List.all_eq_true.mp hseg x hm)
theorem Run.icmp (hK : Ok Z EL a0 l own nm bytes ml ret R K) {cd : ClassFile.Cond} (hd : decode bytes pc = .ok (.if_icmp cd o, 3)) (ho : 0 ≤ (pc : Int) + o) (hp : ((pc : Int) + o).toNat = pc')
    (kY : if_icmp.holds cd x y = true → Run Z EL nI K Q W h cl sl pc' L rest) (kN : if_icmp.holds cd x y = false → Run Z EL nI K Q W h cl sl (pc + 3) L rest) : Run Z EL nI K Q W h cl sl pc L (.int y :: .int x :: rest) := by
  obtain ⟨hx, rfl, rfl, rfl, rfl, -⟩ := id hK
  cases hc : if_icmp.holds cd x y
  · exact Run.step hK (fun T X t st => XS.icmpNo X hx rfl hd rfl hc st) (kN hc)
  · exact Run.step hK (fun T X t st => XS.icmpYes X hx rfl (pc0 := pc) rfl hd rfl hc ho hp st) (kY hc)
theorem Run.ifz (hK : Ok Z EL a0 l own nm bytes ml ret R K) {cd : ClassFile.Cond} (hd : decode bytes pc = .ok (.ifCond cd o, 3)) (ho : 0 ≤ (pc : Int) + o) (hp : ((pc : Int) + o).toNat = pc')
    (kY : if_icmp.holds cd x 0 = true → Run Z EL nI K Q W h cl sl pc' L rest) (kN : if_icmp.holds cd x 0 = false → Run Z EL nI K Q W h cl sl (pc + 3) L rest) : Run Z EL nI K Q W h cl sl pc L (.int x :: rest) := by
  obtain ⟨hx, rfl, rfl, rfl, rfl, -⟩ := id hK
  cases hc : if_icmp.holds cd x 0
  · exact Run.step hK (fun T X t st => XS.ifNo X hx rfl hd rfl (by rw [if0]; exact hc) st) (kN hc)
  · exact Run.step hK (fun T X t st => XS.ifYes X hx rfl (pc0 := pc) rfl hd rfl (by rw [if0]; exact hc) ho hp st) (kY hc)
theorem h_eq (x y : Int32) : (if_icmp.holds .eq x y = true → x = y) ∧ (if_icmp.holds .eq x y = false → ¬ x = y) := by
  by_cases q : x = y
  · refine ⟨fun _ => q, fun z => ?_⟩; rw [(teq q).1] at z; cases z
  · refine ⟨fun z => ?_, fun _ => q⟩; rw [(feq q).1] at z; cases z
theorem h_ne (x y : Int32) : (if_icmp.holds .ne x y = true → ¬ x = y) ∧ (if_icmp.holds .ne x y = false → x = y) := by
  by_cases q : x = y
  · refine ⟨fun z => ?_, fun _ => q⟩; rw [(teq q).2] at z; cases z
  · refine ⟨fun _ => q, fun z => ?_⟩; rw [(feq q).2] at z; cases z
theorem h_lt (x y : Int32) : (if_icmp.holds .lt x y = true → x < y) ∧ (if_icmp.holds .lt x y = false → ¬ x < y) := by
  by_cases q : x < y
  · refine ⟨fun _ => q, fun z => ?_⟩; rw [(tlt q).1] at z; cases z
  · refine ⟨fun z => ?_, fun _ => q⟩; rw [(flt q).1] at z; cases z
theorem h_ge (x y : Int32) : (if_icmp.holds .ge x y = true → ¬ x < y) ∧ (if_icmp.holds .ge x y = false → x < y) := by
  by_cases q : x < y
  · refine ⟨fun z => ?_, fun _ => q⟩; rw [(tlt q).2.1] at z; cases z
  · refine ⟨fun _ => q, fun z => ?_⟩; rw [(flt q).2.1] at z; cases z
theorem h_gt (x y : Int32) : (if_icmp.holds .gt x y = true → y < x) ∧ (if_icmp.holds .gt x y = false → ¬ y < x) := by
  by_cases q : y < x
  · refine ⟨fun _ => q, fun z => ?_⟩; rw [(tlt q).2.2.1] at z; cases z
  · refine ⟨fun z => ?_, fun _ => q⟩; rw [(flt q).2.2.1] at z; cases z
theorem h_le (x y : Int32) : (if_icmp.holds .le x y = true → ¬ y < x) ∧ (if_icmp.holds .le x y = false → y < x) := by
  by_cases q : y < x
  · refine ⟨fun z => ?_, fun _ => q⟩; rw [(tlt q).2.2.2] at z; cases z
  · refine ⟨fun _ => q, fun z => ?_⟩; rw [(flt q).2.2.2] at z; cases z
theorem Run.ifn (hK : Ok Z EL a0 l own nm bytes ml ret R K) (hd : decode bytes pc = .ok (.ifnull o, 3)) (ho : 0 ≤ (pc : Int) + o) (hp : ((pc : Int) + o).toNat = pc') (k : Run Z EL nI K Q W h cl sl pc' L rest) : Run Z EL nI K Q W h cl sl pc L (.null :: rest) := by
  obtain ⟨hx, rfl, rfl, rfl, rfl, -⟩ := id hK
  exact Run.step hK (fun T X t st => XS.ifnullYes X hx rfl (pc0 := pc) rfl hd rfl ho hp st) k
theorem Run.ifr (hK : Ok Z EL a0 l own nm bytes ml ret R K) (hd : decode bytes pc = .ok (.ifnull o, 3)) (k : Run Z EL nI K Q W h cl sl (pc + 3) L rest) : Run Z EL nI K Q W h cl sl pc L (.ref a :: rest) := by
  obtain ⟨hx, rfl, rfl, rfl, rfl, -⟩ := id hK
  exact Run.step hK (fun T X t st => XS.ifnullNo X hx rfl hd rfl st) k
theorem Run.ifnnr (hK : Ok Z EL a0 l own nm bytes ml ret R K) (hd : decode bytes pc = .ok (.ifnonnull o, 3)) (ho : 0 ≤ (pc : Int) + o) (hp : ((pc : Int) + o).toNat = pc') (k : Run Z EL nI K Q W h cl sl pc' L rest) : Run Z EL nI K Q W h cl sl pc L (.ref a :: rest) := by
  obtain ⟨hx, rfl, rfl, rfl, rfl, -⟩ := id hK
  exact Run.step hK (fun T X t st => XT.ifnonnullYes X hx rfl (pc0 := pc) rfl hd rfl ho hp st) k
theorem Run.ifnnn (hK : Ok Z EL a0 l own nm bytes ml ret R K) (hd : decode bytes pc = .ok (.ifnonnull o, 3)) (k : Run Z EL nI K Q W h cl sl (pc + 3) L rest) : Run Z EL nI K Q W h cl sl pc L (.null :: rest) := by
  obtain ⟨hx, rfl, rfl, rfl, rfl, -⟩ := id hK
  exact Run.step hK (fun T X t st => XT.ifnonnullNo X hx rfl hd rfl st) k
theorem Run.cast (hK : Ok Z EL a0 l own nm bytes ml ret R K) {Kc : String} {index : Nat} (w : (Jvm.Cond.classLink own index Kc).before a0 Z = true) (F : Ins Z h a Kc true) (hd : decode bytes pc = .ok (.checkcast index, 3)) (k : Run Z EL nI K Q W h cl sl (pc + 3) L (.ref a :: rest)) : Run Z EL nI K Q W h cl sl pc L (.ref a :: rest) := by
  obtain ⟨hx, rfl, rfl, rfl, rfl, -⟩ := id hK
  refine Run.same hK (fun T vm0 locs X hZ hown e => ?_) k
  exact castY X hx hZ hown w e F (g := mkF K.m pc L (.ref a :: rest)) rfl rfl hd
theorem Run.castn (hK : Ok Z EL a0 l own nm bytes ml ret R K) {index : Nat} (hd : decode bytes pc = .ok (.checkcast index, 3)) (k : Run Z EL nI K Q W h cl sl (pc + 3) L (.null :: rest)) : Run Z EL nI K Q W h cl sl pc L (.null :: rest) := by
  obtain ⟨hx, rfl, rfl, rfl, rfl, -⟩ := id hK
  refine Run.same hK (fun T vm0 locs X hZ hown e => ⟨T, X, e, ?_⟩) k
  exact X.checkcastNull hx (g := mkF K.m pc L (.null :: rest)) rfl rfl hd
theorem Run.instY (hK : Ok Z EL a0 l own nm bytes ml ret R K) {Kc : String} {index : Nat} (w : (Jvm.Cond.classLink own index Kc).before a0 Z = true) (F : Ins Z h a Kc true) (hd : decode bytes pc = .ok (.instanceof index, 3)) (k : Run Z EL nI K Q W h cl sl (pc + 3) L (.int 1 :: rest)) : Run Z EL nI K Q W h cl sl pc L (.ref a :: rest) := by
  obtain ⟨hx, rfl, rfl, rfl, rfl, -⟩ := id hK
  refine Run.same hK (fun T vm0 locs X hZ hown e => ?_) k
  exact Jvm.RoadKit.instY X hx hZ hown w e F (g := mkF K.m pc L (.ref a :: rest)) rfl rfl hd
theorem Run.instN (hK : Ok Z EL a0 l own nm bytes ml ret R K) {Kc C : String} {index : Nat} (w : (Jvm.Cond.classLink own index Kc).before a0 Z = true) (F : Ins Z h a Kc false) (E : Exa Z h a C) (hd : decode bytes pc = .ok (.instanceof index, 3)) (k : Run Z EL nI K Q W h cl sl (pc + 3) L (.int 0 :: rest)) : Run Z EL nI K Q W h cl sl pc L (.ref a :: rest) := by
  obtain ⟨hx, rfl, rfl, rfl, rfl, -⟩ := id hK
  refine Run.same hK (fun T vm0 locs X hZ hown e => ?_) k
  obtain ⟨cell, cT, h1, h2, h3⟩ := F
  obtain ⟨cell', kc, e1, -, e3, e4, -⟩ := E
  cases h1.symm.trans e1
  obtain ⟨k', q, -⟩ := hZ.alike.2.2 _ _ e3
  obtain ⟨vm', X', st⟩ := Jvm.Sym.instanceofNoAt X hx hown (mvT hZ w) (by rw [e]; exact h1) e4 q (by rw [hZ.alike.findClass]; exact h2) (by rw [hZ.alike.assignable]; simpa [e4] using h3) (g := mkF K.m pc L (.ref a :: rest)) rfl rfl hd
  exact ⟨_, X', e, st⟩
theorem Run.instNull (hK : Ok Z EL a0 l own nm bytes ml ret R K) {index : Nat} (hd : decode bytes pc = .ok (.instanceof index, 3)) (k : Run Z EL nI K Q W h cl sl (pc + 3) L (.int 0 :: rest)) : Run Z EL nI K Q W h cl sl pc L (.null :: rest) := by
  obtain ⟨hx, rfl, rfl, rfl, rfl, -⟩ := id hK
  refine Run.same hK (fun T vm0 locs X hZ hown e => ⟨T, X, e, ?_⟩) k
  exact X.instanceofNull hx (g := mkF K.m pc L (.null :: rest)) rfl rfl hd
/-- if_acmp: same: whether the two are one -/
theorem Run.acmp (hK : Ok Z EL a0 l own nm bytes ml ret R K) {cd : ACond} {u v : Value} (h1 : u.isRef = true) (h2 : v.isRef = true) {same : Bool} (hq : decide (u = v) = same) (hd : decode bytes pc = .ok (.if_acmp cd o, 3)) (ho : 0 ≤ (pc : Int) + o) (hp : pc' = if acV cd same = true then ((pc : Int) + o).toNat else pc + 3)
    (k : Run Z EL nI K Q W h cl sl pc' L rest) : Run Z EL nI K Q W h cl sl pc L (v :: u :: rest) := by
  obtain ⟨hx, rfl, rfl, rfl, rfl, -⟩ := id hK
  refine Run.same hK (fun T vm0 locs X hZ hown e => ⟨T, X, e, fun t st => ?_⟩) k
  exact Jvm.RoadKit.acmp X hx (g := mkF K.m pc L (v :: u :: rest)) rfl h1 h2 (pc0 := pc) rfl hd rfl hq ho hp st
theorem Run.irem (hK : Ok Z EL a0 l own nm bytes ml ret R K) (hd : decode bytes pc = .ok (.irem, 1)) (hy : y ≠ 0) (k : Run Z EL nI K Q W h cl sl (pc + 1) L (.int (x % y) :: rest)) : Run Z EL nI K Q W h cl sl pc L (.int y :: .int x :: rest) := by
  obtain ⟨hx, rfl, rfl, rfl, rfl, -⟩ := id hK
  refine Run.same hK (fun T vm0 locs X hZ hown e => ⟨T, X, e, fun t st => ?_⟩) k
  exact iremM X hx (g := mkF K.m pc L (.int y :: .int x :: rest)) rfl hd rfl hy st
end Branches
end Jvm.OwnK
namespace Jvm.OwnK
open Sem ClassFile Op Lib Jvm.RoadKit
theorem tI0 : (0 : Int32).toInt = 0 := rfl
theorem c16 {x : Int32} (h0 : ¬ x < 0) (h1 : ¬ (65535 : Int32) < x) : x.toUInt32.toUInt16.toUInt32.toInt32 = x := by
  have q := c_i2c x
  rw [Int32.lt_iff_toInt_lt] at h0 h1
  have e1 : (0 : Int32).toInt = 0 := rfl
  have e2 : (65535 : Int32).toInt = 65535 := rfl
  apply Int32.toInt_inj.mp; omega
theorem lt255 {x : Int32} (h : ¬ (255 : Int32) < x) : ¬ (65535 : Int32) < x := fun q => h (Int32.lt_trans (by decide) q)
/-- a char below 256, as i2c, castore and ireturn leave it -/
theorem nc {x : Int32} (h : ¬ x < 0 ∧ ¬ (255 : Int32) < x) : nar .char x = x := c16 h.1 (lt255 h.2)
theorem nrc {x : Int32} (h : ¬ x < 0 ∧ ¬ (255 : Int32) < x) : narrow .char (.int x) = .int x := by rw [show narrow .char (.int x) = .int x.toUInt32.toUInt16.toUInt32.toInt32 from rfl, c16 h.1 (lt255 h.2)]
theorem m255 (x : Int32) : ¬ (x &&& 255) < 0 ∧ ¬ (255 : Int32) < (x &&& 255) := by
  have q := c_and x 255 (by decide)
  have e2 : (255 : Int32).toInt = 255 := rfl
  rw [Int32.lt_iff_toInt_lt, Int32.lt_iff_toInt_lt, tI0, e2]; omega
theorem i2c255 (x : Int32) : (x &&& (255 : Int32)).toUInt32.toUInt16.toUInt32.toInt32 = x &&& 255 := c16 (m255 x).1 (lt255 (m255 x).2)
theorem ofN {n : Nat} (h : n ≤ 4000) : (Int32.ofNat n).toInt = n := Int32.toInt_ofNat_small (by omega)
theorem ofN_lt {n : Nat} (h : n ≤ 4000) {k : Int32} {m : Nat} (hk : k.toInt = m) : Int32.ofNat n < k ↔ n < m := by rw [Int32.lt_iff_toInt_lt, ofN h, hk]; omega
theorem ofN_sub {n m : Nat} (h : n ≤ 4000) (hm : m ≤ n) : Int32.ofNat n - Int32.ofNat m = Int32.ofNat (n - m) := by
  apply Int32.toInt_inj.mp
  have q := c_isub (Int32.ofNat n) (Int32.ofNat m)
  have r := rng32 (Int32.ofNat n - Int32.ofNat m)
  rw [ofN h, ofN (by omega)] at q
  rw [ofN (by omega)]; omega
theorem ofN_add {n m : Nat} (h : n + m ≤ 4000) : Int32.ofNat n + Int32.ofNat m = Int32.ofNat (n + m) := by
  apply Int32.toInt_inj.mp
  have q := c_iadd (Int32.ofNat n) (Int32.ofNat m)
  have r := rng32 (Int32.ofNat n + Int32.ofNat m)
  rw [ofN (by omega), ofN (by omega)] at q
  rw [ofN h]; omega
end Jvm.OwnK
namespace Jvm.OwnK
open Sem ClassFile Op Lib Jvm.Free Jvm.RoadKit
section Facts
variable {Z : State} {a0 : Array Value} {h h1 h2 : Heap} {a : Addr} {C K O : String} {n : Nat} {ws : List Addr}
theorem Ext.tr (E : Ext h h1) (F : Ext h1 h2) : Ext h h2 := ⟨Nat.le_trans E.1 F.1, fun x c q => F.2 x c (E.2 x c q)⟩
theorem Ext.rf : Ext h h := ⟨Nat.le_refl _, fun _ _ q => q⟩
theorem ext_keep (E : Ext h h1) (F : Keep h1 h2 ws) (hn : ∀ x ∈ ws, h.size ≤ x) : Ext h h2 := ⟨Nat.le_trans E.1 F.1, fun x c q => F.2.1 x c (E.2 x c q) fun hm => absurd (Array.getElem?_eq_some_iff.mp q).1 (Nat.not_lt.mpr (hn x hm))⟩
theorem ext_wr (E : Ext h h1) {i : Nat} {v : Value} (F : Wr h1 h2 a i v) (hn : h.size ≤ a) : Ext h h2 := ext_keep E (Keep.of_wr F) (fun x hx => by cases List.mem_singleton.mp hx; exact hn)
/-- an object of C is none of K: C's superclass is O, which has none -/
theorem ins_no (w1 : (Jvm.Cond.superclass C O).before a0 Z = true) (w2 : (Jvm.Cond.noSuperclass O).before a0 Z = true) (wi : (Jvm.Cond.instantiable K n).before a0 Z = true) (g1 : C ≠ K) (g2 : O ≠ K) (E : Exa Z h a C) : Ins Z h a K false := by
  obtain ⟨t, kt, t1, t2, t3, t4, -⟩ := Cond.instantiable_spec wi
  obtain ⟨c, h0⟩ := found_sup w1
  obtain ⟨p, k, kp, s1, s2, s3, s4, s5, s6, s7⟩ := Cond.superclass_spec h0 w1
  obtain ⟨p', kp', r1, r2, r3, r4, r5⟩ := Cond.noSuperclass_spec w2
  cases s1.symm.trans r1
  obtain ⟨cell, kc, e1, e2, e3, e4, -⟩ := E
  cases h0.symm.trans e2
  have n1 := ids_ne h0 t1 g1
  have n2 := ids_ne s1 t1 g2
  have n3 : ∀ fuel, Z.vm.isSubclassAux fuel p t = false := fun fuel => by
    cases fuel with
    | zero => rfl
    | succ f => simp [Vm.isSubclassAux, n2, r2, r3]
  have n4 : ∀ fuel, Z.vm.isSubclassAux fuel cell.cls t = false := fun fuel => by
    cases fuel with
    | zero => rfl
    | succ f => simp [Vm.isSubclassAux, n1, s2, s4, n3]
  have ti : kt.isInterface = false := by cases q : kt.isInterface <;> simp [q] at t4 ⊢
  refine ⟨cell, t, e1, t1, ?_⟩
  have : Z.vm.assignable cell.cls t = false := by
    show Z.vm.assignableAux (255 + 1) cell.cls t = false
    simp [Vm.assignableAux, n1, s2, t2, s5, t3, ti, Vm.isSubclass, n4]
  rw [this]; simp
/-- .. C's superclass is D, D's is O, which has none -/
theorem ins_no2 {D : String} (w0 : (Jvm.Cond.superclass C D).before a0 Z = true) (w1 : (Jvm.Cond.superclass D O).before a0 Z = true) (w2 : (Jvm.Cond.noSuperclass O).before a0 Z = true) (wi : (Jvm.Cond.instantiable K n).before a0 Z = true) (g0 : C ≠ K) (g1 : D ≠ K) (g2 : O ≠ K) (E : Exa Z h a C) : Ins Z h a K false := by
  obtain ⟨t, kt, t1, t2, t3, t4, -⟩ := Cond.instantiable_spec wi
  obtain ⟨c, h0⟩ := found_sup w0
  obtain ⟨d, k0, kd, u1, u2, u3, u4, u5, u6, u7⟩ := Cond.superclass_spec h0 w0
  obtain ⟨p, k, kp, s1, s2, s3, s4, s5, s6, s7⟩ := Cond.superclass_spec u1 w1
  obtain ⟨p', kp', r1, r2, r3, r4, r5⟩ := Cond.noSuperclass_spec w2
  cases s1.symm.trans r1
  obtain ⟨cell, kc, e1, e2, e3, e4, -⟩ := E
  cases h0.symm.trans e2
  have n0 := ids_ne h0 t1 g0
  have n1 := ids_ne u1 t1 g1
  have n2 := ids_ne s1 t1 g2
  have n3 : ∀ fuel, Z.vm.isSubclassAux fuel p t = false := fun fuel => by
    cases fuel with
    | zero => rfl
    | succ f => simp [Vm.isSubclassAux, n2, r2, r3]
  have n4 : ∀ fuel, Z.vm.isSubclassAux fuel d t = false := fun fuel => by
    cases fuel with
    | zero => rfl
    | succ f => simp [Vm.isSubclassAux, n1, s2, s4, n3]
  have n5 : ∀ fuel, Z.vm.isSubclassAux fuel cell.cls t = false := fun fuel => by
    cases fuel with
    | zero => rfl
    | succ f => simp [Vm.isSubclassAux, n0, u2, u4, n4]
  have ti : kt.isInterface = false := by cases q : kt.isInterface <;> simp [q] at t4 ⊢
  refine ⟨cell, t, e1, t1, ?_⟩
  have : Z.vm.assignable cell.cls t = false := by
    show Z.vm.assignableAux (255 + 1) cell.cls t = false
    simp [Vm.assignableAux, n0, u2, t2, u5, t3, ti, Vm.isSubclass, n5]
  rw [this]; simp
theorem and3 (x : Int32) : x &&& 3 = 0 ∨ x &&& 3 = 1 ∨ x &&& 3 = 2 ∨ x &&& 3 = 3 := by
  have q := c_mask x 3 2 (by decide) (by decide)
  have e : ∀ k : Int32, (x &&& 3).toInt = k.toInt → x &&& 3 = k := fun k h => Int32.toInt_inj.mp h
  have h0 := e 0; have h1 := e 1; have h2 := e 2; have h3 := e 3
  have e0 : (0 : Int32).toInt = 0 := rfl
  have e1 : (1 : Int32).toInt = 1 := rfl
  have e2 : (2 : Int32).toInt = 2 := rfl
  have e3 : (3 : Int32).toInt = 3 := rfl
  rw [e0] at h0; rw [e1] at h1; rw [e2] at h2; rw [e3] at h3
  have : x.toInt % ((2 ^ 2 : Nat) : Int) = 0 ∨ x.toInt % ((2 ^ 2 : Nat) : Int) = 1 ∨ x.toInt % ((2 ^ 2 : Nat) : Int) = 2 ∨ x.toInt % ((2 ^ 2 : Nat) : Int) = 3 := by omega
  rcases this with z | z | z | z
  · exact Or.inl (h0 (q.trans z))
  · exact Or.inr (Or.inl (h1 (q.trans z)))
  · exact Or.inr (Or.inr (Or.inl (h2 (q.trans z))))
  · exact Or.inr (Or.inr (Or.inr (h3 (q.trans z))))
end Facts
end Jvm.OwnK
namespace Jvm.OwnK
open Sem ClassFile Op Lib Jvm.RoadKit
theorem getD_mapI (cs : List Int32) (i : Nat) : (cs.map Value.int).getD i (.int 0) = .int (cs.getD i 0) := by
  simp only [List.getD_eq_getElem?_getD, List.getElem?_map]
  cases cs[i]? <;> rfl
theorem set_map (cs : List Int32) (i n : Nat) (c : Int32) (hn : n = cs.length) : setv (cs.map Value.int) n i (.int 0) (.int c) = (cs.set i c).map Value.int := by
  unfold setv; simp [hn, List.map_set]
theorem set_eq {cs : List Int32} {i : Nat} {c : Int32} (hi : i < cs.length) : cs.set i c = cs ↔ c = cs.getD i 0 := by
  constructor
  · intro h
    have q : (cs.set i c).getD i 0 = cs.getD i 0 := by rw [h]
    simpa [List.getD_eq_getElem?_getD, hi] using q
  · rintro rfl
    refine List.ext_getElem (by simp) fun j h1 h2 => ?_
    rw [List.getElem_set]
    split
    · rename_i e; subst e; simp [List.getD_eq_getElem?_getD, hi]
    · rfl
theorem ofN_nat {n : Nat} (h : n ≤ 4000) : (Int32.ofNat n).toNatClampNeg = n := by
  have := ofN h
  simp only [Int32.toNatClampNeg, this]; omega
theorem ofN_nn {n : Nat} (h : n ≤ 4000) : ¬ Int32.ofNat n < 0 := by rw [Int32.lt_iff_toInt_lt, ofN h, tI0]; omega
end Jvm.OwnK
namespace Jvm.OwnK
open Sem ClassFile Op Lib Bundle Jvm.Stand Jvm.Free Jvm.LawKit Jvm.RoadKit
/-! calls whose callee interns nothing: what they make may be written afterwards; super.m(); a class that is no interface -/
section Fresh
variable {Z : State} {EL : List (String × Nat)} {nI : Bool} {a0 : Array Value} {l : Launch} {own nm : String} {bytes : ByteArray} {ml : Nat} {ret : Option FieldType} {R rm : Room} {K : Kx} {Q Qy : Option Value → Heap → Prop} {W W' : List Addr} {h : Heap} {cl sl pc len Wt kc ks : Nat} {L : Array Slot} {S rest argsL : List Value} {y z : MethodName} {as' : Array Value} {index : Nat}
theorem Cal.wk (hC : Cal Z EL true a0 l R y len Wt as' h W kc ks Qy) : Cal Z EL nI a0 l R y len Wt as' h W kc ks Qy := fun p e bl s as vm0 hZ hEL H hS hO => by
  intro m meth c A g ig mk a X hg hsize hdg hW hn hp
  obtain ⟨v, B, X', q1, q2, ⟨Lo, r1, r2, r3, r4, r5, r6, r7, r8⟩, st⟩ := hC p e bl s as vm0 hZ hEL H hS hO m meth c A g ig mk a X hg hsize hdg hW hn hp
  exact ⟨v, B, X', q1, q2, ⟨Lo, r1, r2, r3, r4, r5, r6, fun _ => r7 rfl, r8⟩, st⟩
theorem fresh_safe {s : State} {vm0 vm1 : Vm} {h' : Heap} {ws : List Addr} (hW : (s.setVm vm0).WarmedH vm1) (hZ : Z.Warmed39 vm0) (w : EW Z a0 EL) (H : CHv Z EL vm0 h) (Kp : Keep h h' ws) (hs : ∀ x ∈ ws, Safe Z EL vm0 h x) {x : Addr} (hx : h.size ≤ x) : Safe Z EL vm1 h' x := by
  have q := CHv.later (h' := h) hZ (hW := (show (Wst Z vm0 h).Warmed39 vm1 from hW.wide)) w ⟨Nat.le_refl _, fun _ _ q => q⟩ (Or.inl hW.interned_eq) H
  have A : CHr Z EL vm0 h vm1 h := ⟨q.1, Nat.le_refl _, q.2⟩
  have hs' : ∀ y ∈ ws, Safe Z EL vm1 h y := fun y hy => by
    rcases Nat.lt_or_ge y h.size with r | r
    · exact A.safe r (hs y hy)
    · exact Safe.new r
  exact fun B => Safe.new (Z := Z) (EL := EL) (vm := vm1) (h := h) hx ((A.1.keepStep Kp hs').2 x B)
theorem St.backF (hK : Ok Z EL a0 l own nm bytes ml ret R K) {vm0 : Vm} {k0 : Nat} {locs : List Loc} {v : Option Value} {B : Pt} (X2 : K.s.Since vm0 k0) (X3 : k0 ≤ h.size) (X4 : Z.Warmed39 vm0) (X5 : CHr Z EL K.s.vm K.s.heap vm0 h) (X6 : ∀ x ∈ W, x < h.size ∧ Safe Z EL vm0 h x) (X8 : Fr Z.heap.size locs) (X9 : nI = true → K.s.WarmedH vm0)
    (Y : Stand K.p K.l K.e K.R ((K.s.setVm vm0).setVm B.U.vm) K.m K.as K.bl K.me K.c B.U B.locs B.cells B.slots) (hS : (K.s.setVm vm0).Since B.U.vm B.U.heap.size) (hg : h.size ≤ B.U.heap.size)
    (hp : ∃ Lo, Qy v B.U.heap ∧ Fr Z.heap.size Lo ∧ B.locs = locs ++ Lo ∧ B.cells = cl + kc ∧ B.slots = sl + ks ∧ CHr Z EL vm0 h B.U.vm B.U.heap ∧ (true = true → (K.s.setVm vm0).WarmedH B.U.vm) ∧ Ext Z.heap B.U.heap) (hKp : ∀ v h', Qy v h' → ∃ ws, Keep h h' ws ∧ ∀ x ∈ ws, Sf Z EL W h x) :
    Qy v B.U.heap ∧ ∀ N : List Addr, (∀ x ∈ N, h.size ≤ x ∧ x < B.U.heap.size) → St Z EL nI K (N ++ W) B.U.heap (cl + kc) (sl + ks) B.U := by
  obtain ⟨Lo, h1, h2, h3, h4, h5, h6, h7, h8⟩ := hp
  rw [h3, h4, h5] at Y
  obtain ⟨ws, q1, q2⟩ := hKp _ _ h1
  refine ⟨h1, fun N hN => ⟨B.U.vm, B.U.heap.size, _, Y, X2.trans hS (Nat.le_trans X3 hg), Nat.le_refl _, State.Warmed39.trans (t := K.s.setVm vm0) X4 hS.1, X5.trans h6, fun x hx => ?_, rfl, X8.app h2, fun q => State.WarmedH.trans (X9 q) (h7 rfl), h8⟩⟩
  rcases List.mem_append.mp hx with hx | hx
  · exact ⟨(hN x hx).2, fresh_safe (h7 rfl) X4 hK.2.2.2.2.2.2.2.2.2 X5.1 q1 (fun y hy => q2 y hy vm0 X4 X6) (hN x hx).1⟩
  · exact ⟨Nat.lt_of_lt_of_le (X6 x hx).1 hg, h6.safe (X6 x hx).1 (X6 x hx).2⟩
/-- invokespecial of a constructor that interns nothing: what it made may be written -/
theorem Run.specialF (hK : Ok Z EL a0 l own nm bytes ml ret R K) {by' : ByteArray} {ml' : Nat} (hy1 : y.name = "<init>") (w1 : (Jvm.Cond.methodLink own index y).before a0 Z = true) (w2 : (Jvm.Cond.instanceMethod y).before a0 Z = true) (w4 : (Jvm.Cond.code y by' ml' none).before a0 Z = true)
    (hy : y.cls ≠ "java/lang/invoke/MethodHandle" ∧ y.cls ≠ "java/lang/invoke/VarHandle") {a : Addr} (hsub : ∀ x ∈ W', x ∈ W) (hC : Cal Z EL true a0 l R y 3 Wt (.ref a :: argsL).toArray h W' kc ks Qy) (hsz : L.size = ml)
    (hlen : ∀ sig, parseMethodDescriptor y.desc = some sig → argsL.length = sig.parameters.length) (hst : S = argsL.reverse ++ .ref a :: rest) (hW : (rest.map fun v => v.category).sum ≤ Wt) (hd : decode bytes pc = .ok (.invokespecial index, 3)) (hc : cl + kc ≤ R.cells) (hs : sl + ks ≤ R.slots)
    (hKp : ∀ v h', Qy v h' → ∃ ws, Keep h h' ws ∧ ∀ x ∈ ws, Sf Z EL W h x)
    (k : ∀ v h', Qy v h' → h.size ≤ h'.size → ∃ N : List Addr, (∀ x ∈ N, h.size ≤ x ∧ x < h'.size) ∧ Run Z EL nI K Q (N ++ W) h' (cl + kc) (sl + ks) (pc + 3) L (v.toList ++ rest)) : Run Z EL nI K Q W h cl sl pc L S := fun T X => by
  obtain ⟨vm0, k0, locs, X1, X2, X3, X4, X5, X6, X7, X8, X9, X10⟩ := X
  have hown := hK.fc X2
  have hK0 := hK
  obtain ⟨hx, rfl, rfl, rfl, rfl, -, -, -, -, hEL⟩ := id hK
  have hZ : Z.Warmed39 (K.s.setVm vm0).vm := X4
  subst hst
  obtain ⟨v, vm1, B, -, Y, hS, hg, hp, st⟩ := X1.specialBackS hx (y := y) hy1 hown (mvT hZ w1) (mvT hZ w2) (mvT hZ w4) hy (hC K.p K.e K.bl K.s K.as vm0 X4 hEL X5.1 (fun x hx => X6 x (hsub x hx)) X10) (g := mkF K.m pc L (argsL.reverse ++ .ref a :: rest)) rfl hsz (Steps.refl _) (a := a) (argsL := argsL) (rest := rest) hlen rfl (by show 2 * 0 + _ ≤ _; omega) hd (fun _ _ => ⟨rfl, X7, hc, hs⟩)
  rw [X7] at hg
  obtain ⟨hq, Y'⟩ := St.backF hK0 X2 X3 X4 X5 X6 X8 X9 Y hS hg hp hKp
  obtain ⟨N, hN, kk⟩ := k v _ hq hg
  obtain ⟨s2, v', Lo, g, r⟩ := kk B.U (Y' _ hN)
  exact ⟨s2, v', Lo, st.trans g, r⟩
/-- invokevirtual likewise -/
theorem Run.virtualF (hK : Ok Z EL a0 l own nm bytes ml ret R K) {C : String} (w1 : (Jvm.Cond.methodLink own index y).before a0 Z = true) (w2 : (Jvm.Cond.declares y).before a0 Z = true) (hnf : ∀ s : State, Z.Warmed39 s.vm → NotFace s y) (w3 : (Jvm.Cond.selects C y z).before a0 Z = true) (w4 : (Jvm.Cond.instanceMethod z).before a0 Z = true)
    (hy : y.cls ≠ "java/lang/invoke/MethodHandle" ∧ y.cls ≠ "java/lang/invoke/VarHandle") {a : Addr} (E : Exa Z h a C) (hsub : ∀ x ∈ W', x ∈ W) (hC : Cal Z EL true a0 l R z 3 Wt (.ref a :: argsL).toArray h W' kc ks Qy) (hsz : L.size = ml)
    (hlen : ∀ sig, parseMethodDescriptor y.desc = some sig → argsL.length = sig.parameters.length) (hst : S = argsL.reverse ++ .ref a :: rest) (hW : (rest.map fun v => v.category).sum ≤ Wt) (hd : decode bytes pc = .ok (.invokevirtual index, 3)) (hc : cl + kc ≤ R.cells) (hs : sl + ks ≤ R.slots)
    (hKp : ∀ v h', Qy v h' → ∃ ws, Keep h h' ws ∧ ∀ x ∈ ws, Sf Z EL W h x)
    (k : ∀ v h', Qy v h' → h.size ≤ h'.size → ∃ N : List Addr, (∀ x ∈ N, h.size ≤ x ∧ x < h'.size) ∧ Run Z EL nI K Q (N ++ W) h' (cl + kc) (sl + ks) (pc + 3) L (v.toList ++ rest)) : Run Z EL nI K Q W h cl sl pc L S := fun T X => by
  obtain ⟨vm0, k0, locs, X1, X2, X3, X4, X5, X6, X7, X8, X9, X10⟩ := X
  have hown := hK.fc X2
  have hK0 := hK
  obtain ⟨hx, rfl, rfl, rfl, rfl, -, -, -, -, hEL⟩ := id hK
  have hZ : Z.Warmed39 (K.s.setVm vm0).vm := X4
  subst hst
  obtain ⟨cq, kq, qa, qb, qc⟩ := isOf hZ X7 E
  obtain ⟨v, vm1, B, -, Y, hS, hg, hp, st⟩ := X1.virtualBackS hx (y := y) (z := z) hown (mvT hZ w1) (mvT hZ w2) (hnf _ hZ) (mvT hZ w3) (mvT hZ w4) hy (hC K.p K.e K.bl K.s K.as vm0 X4 hEL X5.1 (fun x hx => X6 x (hsub x hx)) X10) qa qc (g := mkF K.m pc L (argsL.reverse ++ .ref a :: rest)) rfl hsz (Steps.refl _) (argsL := argsL) (rest := rest) hlen rfl (by show 2 * 0 + _ ≤ _; omega) hd (fun _ _ => ⟨rfl, X7, hc, hs⟩)
  rw [X7] at hg
  obtain ⟨hq, Y'⟩ := St.backF hK0 X2 X3 X4 X5 X6 X8 X9 Y hS hg hp hKp
  obtain ⟨N, hN, kk⟩ := k v _ hq hg
  obtain ⟨s2, v', Lo, g, r⟩ := kk B.U (Y' _ hN)
  exact ⟨s2, v', Lo, st.trans g, r⟩
/-- invokevirtual of a private method that an object of C selects -/
theorem Run.privatS (hK : Ok Z EL a0 l own nm bytes ml ret R K) {by' : ByteArray} {ml' : Nat} {ret' : Option FieldType} {C : String} (w1 : (Jvm.Cond.methodLink own index y).before a0 Z = true) (w2 : (Jvm.Cond.instanceMethod y).before a0 Z = true) (w3 : (Jvm.Cond.selects C y y).before a0 Z = true) (w5 : (Jvm.Cond.privateMethod y).before a0 Z = true) (w4 : (Jvm.Cond.code y by' ml' ret').before a0 Z = true)
    (hy : y.cls ≠ "java/lang/invoke/MethodHandle" ∧ y.cls ≠ "java/lang/invoke/VarHandle") {a : Addr} (E : Exa Z h a C) (hsub : ∀ x ∈ W', x ∈ W) (hC : Cal Z EL nI a0 l R y 3 Wt (.ref a :: argsL).toArray h W' kc ks Qy) (hsz : L.size = ml)
    (hlen : ∀ sig, parseMethodDescriptor y.desc = some sig → argsL.length = sig.parameters.length) (hst : S = argsL.reverse ++ .ref a :: rest) (hW : (rest.map fun v => v.category).sum ≤ Wt) (hd : decode bytes pc = .ok (.invokevirtual index, 3)) (hc : cl + kc ≤ R.cells) (hs : sl + ks ≤ R.slots)
    (k : ∀ v h', Qy v h' → h.size ≤ h'.size → Run Z EL nI K Q W h' (cl + kc) (sl + ks) (pc + 3) L (v.toList ++ rest)) : Run Z EL nI K Q W h cl sl pc L S := fun T X => by
  obtain ⟨vm0, k0, locs, X1, X2, X3, X4, X5, X6, X7, X8, X9, X10⟩ := X
  have hown := hK.fc X2
  obtain ⟨hx, rfl, rfl, rfl, rfl, -, -, -, -, hEL⟩ := id hK
  have hZ : Z.Warmed39 (K.s.setVm vm0).vm := X4
  subst hst
  obtain ⟨cq, q1, q2⟩ := E.cell
  obtain ⟨mk, me, hn, hm, hst', hab⟩ := Cond.instanceMethod_spec (mvT (args := K.as) hZ w2)
  obtain ⟨me', cM, hm', -, -, -, -, -, -, hsig⟩ := Cond.code_spec hn (mvT (args := K.as) hZ w4)
  cases hm.symm.trans hm'
  obtain ⟨ki, i2, i5⟩ := nfS w3 _ hZ mk hn
  have hsel : selectMethod K.e.platform (K.s.setVm vm0).vm cq.cls mk = .method mk := selectMethod_private hm (Cond.privateMethod_at (mvP hZ w5 (args := #[])) mk me hn hm)
  obtain ⟨vm1, Y1, st1⟩ := X1.invokevirtual hx hown (mvT hZ w1) hn hm hst' i2 i5 hy (a := a) (cell := cq) (by rw [X7]; exact q1) q2 hsel hm hab i2 i5 (g := mkF K.m pc L (argsL.reverse ++ .ref a :: rest)) rfl (argsL := argsL) (rest := rest) (hlen _ hsig) rfl hd
  obtain ⟨v, B, Y, hS, hg, hp, st2⟩ := hC K.p K.e K.bl K.s K.as vm0 X4 hEL X5.1 (fun x hx => X6 x (hsub x hx)) X10 K.m K.me K.c ⟨T.setVm vm1, locs, cl, sl⟩ (mkF K.m pc L rest) (.invokevirtual index) mk (.ref a :: argsL).toArray Y1 rfl hsz hd (by show 2 * 0 + (rest.map fun v => v.category).sum ≤ Wt; omega) (Y1.named hn) ⟨rfl, X7, hc, hs⟩
  replace hg : h.size ≤ B.U.heap.size := by rw [← X7]; exact hg
  obtain ⟨hq, Y'⟩ := St.back hK X2 X3 X4 X5 X6 X8 X9 Y hS hg hp
  obtain ⟨s2, v', Lo, g, r⟩ := k v _ hq hg B.U Y'
  exact ⟨s2, v', Lo, st1 _ fun acts => by rw [doInvoke_state]; exact st2.trans g, r⟩
/-- invokevirtual of a private method that an object of C selects, what it made may be written -/
theorem Run.privatSF (hK : Ok Z EL a0 l own nm bytes ml ret R K) {by' : ByteArray} {ml' : Nat} {ret' : Option FieldType} {C : String} (w1 : (Jvm.Cond.methodLink own index y).before a0 Z = true) (w2 : (Jvm.Cond.instanceMethod y).before a0 Z = true) (w3 : (Jvm.Cond.selects C y y).before a0 Z = true) (w5 : (Jvm.Cond.privateMethod y).before a0 Z = true) (w4 : (Jvm.Cond.code y by' ml' ret').before a0 Z = true)
    (hy : y.cls ≠ "java/lang/invoke/MethodHandle" ∧ y.cls ≠ "java/lang/invoke/VarHandle") {a : Addr} (E : Exa Z h a C) (hsub : ∀ x ∈ W', x ∈ W) (hC : Cal Z EL true a0 l R y 3 Wt (.ref a :: argsL).toArray h W' kc ks Qy) (hsz : L.size = ml)
    (hlen : ∀ sig, parseMethodDescriptor y.desc = some sig → argsL.length = sig.parameters.length) (hst : S = argsL.reverse ++ .ref a :: rest) (hW : (rest.map fun v => v.category).sum ≤ Wt) (hd : decode bytes pc = .ok (.invokevirtual index, 3)) (hc : cl + kc ≤ R.cells) (hs : sl + ks ≤ R.slots)
    (hKp : ∀ v h', Qy v h' → ∃ ws, Keep h h' ws ∧ ∀ x ∈ ws, Sf Z EL W h x)
    (k : ∀ v h', Qy v h' → h.size ≤ h'.size → ∃ N : List Addr, (∀ x ∈ N, h.size ≤ x ∧ x < h'.size) ∧ Run Z EL nI K Q (N ++ W) h' (cl + kc) (sl + ks) (pc + 3) L (v.toList ++ rest)) : Run Z EL nI K Q W h cl sl pc L S := fun T X => by
  obtain ⟨vm0, k0, locs, X1, X2, X3, X4, X5, X6, X7, X8, X9, X10⟩ := X
  have hown := hK.fc X2
  have hK0 := hK
  obtain ⟨hx, rfl, rfl, rfl, rfl, -, -, -, -, hEL⟩ := id hK
  have hZ : Z.Warmed39 (K.s.setVm vm0).vm := X4
  subst hst
  obtain ⟨cq, q1, q2⟩ := E.cell
  obtain ⟨mk, me, hn, hm, hst', hab⟩ := Cond.instanceMethod_spec (mvT (args := K.as) hZ w2)
  obtain ⟨me', cM, hm', -, -, -, -, -, -, hsig⟩ := Cond.code_spec hn (mvT (args := K.as) hZ w4)
  cases hm.symm.trans hm'
  obtain ⟨ki, i2, i5⟩ := nfS w3 _ hZ mk hn
  have hsel : selectMethod K.e.platform (K.s.setVm vm0).vm cq.cls mk = .method mk := selectMethod_private hm (Cond.privateMethod_at (mvP hZ w5 (args := #[])) mk me hn hm)
  obtain ⟨vm1, Y1, st1⟩ := X1.invokevirtual hx hown (mvT hZ w1) hn hm hst' i2 i5 hy (a := a) (cell := cq) (by rw [X7]; exact q1) q2 hsel hm hab i2 i5 (g := mkF K.m pc L (argsL.reverse ++ .ref a :: rest)) rfl (argsL := argsL) (rest := rest) (hlen _ hsig) rfl hd
  obtain ⟨v, B, Y, hS, hg, hp, st2⟩ := hC K.p K.e K.bl K.s K.as vm0 X4 hEL X5.1 (fun x hx => X6 x (hsub x hx)) X10 K.m K.me K.c ⟨T.setVm vm1, locs, cl, sl⟩ (mkF K.m pc L rest) (.invokevirtual index) mk (.ref a :: argsL).toArray Y1 rfl hsz hd (by show 2 * 0 + (rest.map fun v => v.category).sum ≤ Wt; omega) (Y1.named hn) ⟨rfl, X7, hc, hs⟩
  replace hg : h.size ≤ B.U.heap.size := by rw [← X7]; exact hg
  obtain ⟨hq, Y'⟩ := St.backF hK0 X2 X3 X4 X5 X6 X8 X9 Y hS hg hp hKp
  obtain ⟨N, hN, kk⟩ := k v _ hq hg
  obtain ⟨s2, v', Lo, g, r⟩ := kk B.U (Y' _ hN)
  exact ⟨s2, v', Lo, st1 _ fun acts => by rw [doInvoke_state]; exact st2.trans g, r⟩
/-- super.m(..) -/
theorem Run.up (hK : Ok Z EL a0 l own nm bytes ml ret R K) {by' : ByteArray} {ml' : Nat} {ret' : Option FieldType} {C : String} (hn1 : y.name ≠ "<init>") (w1 : (Jvm.Cond.methodLink own index y).before a0 Z = true) (w2 : (Jvm.Cond.sameMethod y.cls y.cls y.name y.desc).before a0 Z = true) (w3 : (Jvm.Cond.instanceMethod y).before a0 Z = true) (w4 : (Jvm.Cond.superclass own y.cls).before a0 Z = true) (w5 : (Jvm.Cond.code y by' ml' ret').before a0 Z = true)
    {a : Addr} (F : Ins Z h a C true) (hsub : ∀ x ∈ W', x ∈ W) (hC : Cal Z EL nI a0 l R y 3 Wt (.ref a :: argsL).toArray h W' kc ks Qy) (hsz : L.size = ml)
    (hlen : ∀ sig, parseMethodDescriptor y.desc = some sig → argsL.length = sig.parameters.length) (hst : S = argsL.reverse ++ .ref a :: rest) (hW : (rest.map fun v => v.category).sum ≤ Wt) (hd : decode bytes pc = .ok (.invokespecial index, 3)) (hc : cl + kc ≤ R.cells) (hs : sl + ks ≤ R.slots)
    (k : ∀ v h', Qy v h' → h.size ≤ h'.size → Run Z EL nI K Q W h' (cl + kc) (sl + ks) (pc + 3) L (v.toList ++ rest)) : Run Z EL nI K Q W h cl sl pc L S := fun T X => by
  obtain ⟨vm0, k0, locs, X1, X2, X3, X4, X5, X6, X7, X8, X9, X10⟩ := X
  have hown := hK.fc X2
  obtain ⟨hx, rfl, rfl, rfl, rfl, -, -, -, -, hEL⟩ := id hK
  have hZ : Z.Warmed39 (K.s.setVm vm0).vm := X4
  subst hst
  obtain ⟨v, vm1, B, -, Y, hS, hg, hp, st⟩ := superBackS X1 hx hZ (y := y) hown w1 w2 w3 w4 hn1 (hC K.p K.e K.bl K.s K.as vm0 X4 hEL X5.1 (fun x hx => X6 x (hsub x hx)) X10) X7 F (g := mkF K.m pc L (argsL.reverse ++ .ref a :: rest)) rfl hsz w5 (argsL := argsL) (rest := rest) hlen rfl (by show 2 * 0 + _ ≤ _; omega) hd (fun _ _ => ⟨rfl, X7, hc, hs⟩)
  rw [X7] at hg
  obtain ⟨hq, Y'⟩ := St.back hK X2 X3 X4 X5 X6 X8 X9 Y hS hg hp
  obtain ⟨s2, v', Lo, g, r⟩ := k v _ hq hg B.U Y'
  exact ⟨s2, v', Lo, st.trans g, r⟩
/-- a class that declares y' (which an object of C selects) is no interface -/
theorem nfO {y' : MethodName} {C : String} (w3 : (Jvm.Cond.selects C y' y').before a0 Z = true) (wi : (Jvm.Cond.instanceMethod y').before a0 Z = true) (hc : y'.cls = y.cls) : ∀ s : State, Z.Warmed39 s.vm → NotFace s y := fun s hZ r0 h0 => by
  obtain ⟨m', me', hn', -⟩ := Cond.instanceMethod_spec (mvT (args := #[]) hZ wi)
  obtain ⟨kr, h1, h2⟩ := nfS w3 s hZ m' hn'
  have e1 := findClass_of_methodNamed hn'
  have e2 := findClass_of_methodNamed h0
  rw [hc, e2] at e1
  have e3 : r0.cls = m'.cls := Option.some.inj e1
  exact ⟨kr, by rw [e3]; exact h1, h2⟩
theorem sm_of {y' : MethodName} {C : String} (w3 : (Jvm.Cond.selects C y' y').before a0 Z = true) (wi' : (Jvm.Cond.instanceMethod y').before a0 Z = true) (wi : (Jvm.Cond.instanceMethod y).before a0 Z = true) (hc : y'.cls = y.cls) (hy : y.cls ≠ "java/lang/invoke/MethodHandle" ∧ y.cls ≠ "java/lang/invoke/VarHandle") : (Jvm.Cond.sameMethod y.cls y.cls y.name y.desc).before a0 Z = true := by
  obtain ⟨m', me', hn', -⟩ := Cond.instanceMethod_spec wi'
  obtain ⟨m, me, hn, -⟩ := Cond.instanceMethod_spec wi
  obtain ⟨kr, h1, h2⟩ := notFace_of_selects w3 m' hn'
  have e1 := findClass_of_methodNamed hn'
  have e2 := findClass_of_methodNamed hn
  rw [hc, e2] at e1
  have e3 : m.cls = m'.cls := Option.some.inj e1
  have e4 := State.methodFound?_of_named hn hy
  rw [← e3] at h1
  have hn2 : Z.methodNamed? ⟨y.cls, y.name, y.desc⟩ = some m := hn
  simp [Cond.before, Cond.holds, Cond.value, e2, e4, hn2, h1, h2]
end Fresh
end Jvm.OwnK
namespace Jvm.OwnK
open Sem ClassFile Op Lib Jvm.RoadKit
theorem shl0 (x : Int32) : x <<< ((0 : Int32) &&& 31) = x := by
  rw [show ((0 : Int32) &&& 31) = 0 by decide]
  apply Int32.toBitVec_inj.mp; simp
theorem shr0 (x : Int32) : x >>> ((0 : Int32) &&& 31) = x := by
  rw [show ((0 : Int32) &&& 31) = 0 by decide]
  apply Int32.toBitVec_inj.mp; simp
theorem sub0 (x : Int32) : x - (0 : Int32) = x := by simp
theorem le_sub0 {m cap : Nat} (h : m ≤ cap) (hc : cap ≤ 4000) : ¬ (0 : Int32) < Int32.ofNat m - Int32.ofNat cap := by
  have q := c_isub (Int32.ofNat m) (Int32.ofNat cap); have r := rng32 (Int32.ofNat m - Int32.ofNat cap)
  rw [ofN (by omega), ofN hc] at q
  rw [Int32.lt_iff_toInt_lt, tI0]; omega
theorem ofN_lt2 {a b : Nat} (h : a ≤ 4000) (g : b ≤ 4000) : Int32.ofNat a < Int32.ofNat b ↔ a < b := by rw [Int32.lt_iff_toInt_lt, ofN h, ofN g]; omega
theorem app_pad {vs us : List Value} {n : Nat} (d : Value) (h : vs.length + us.length ≤ n) (i : Nat) :
    (vs ++ us).getD i d = ((vs ++ List.replicate (n - vs.length) d).take vs.length ++ (List.range us.length).map (fun i => us.getD (0 + i) d) ++ (vs ++ List.replicate (n - vs.length) d).drop (vs.length + us.length)).getD i d := by
  have e1 : (vs ++ List.replicate (n - vs.length) d).take vs.length = vs := by simp
  have e2 : (List.range us.length).map (fun i => us.getD (0 + i) d) = us := by
    refine List.ext_getElem (by simp) fun j h1 h2 => ?_
    simp [List.getD_eq_getElem?_getD, h2]
  rw [e1, e2]
  simp only [List.getD_eq_getElem?_getD]
  rcases Nat.lt_or_ge i (vs ++ us).length with q | q
  · rw [List.getElem?_append_left q]
  · rw [List.getElem?_append_right q, List.getElem?_eq_none q, List.getElem?_drop]
    rcases Nat.lt_or_ge (vs.length + us.length + (i - (vs ++ us).length)) (vs.length) with r | r
    · omega
    · rw [List.getElem?_append_right r, List.getElem?_replicate]
      split <;> rfl
theorem cp_all {vs : List Value} (d : Value) (i : Nat) : vs.getD i d = ((List.replicate vs.length d).take 0 ++ (List.range vs.length).map (fun i => vs.getD (0 + i) d) ++ (List.replicate vs.length d).drop (0 + vs.length)).getD i d := by
  have e2 : (List.range vs.length).map (fun i => vs.getD (0 + i) d) = vs := by
    refine List.ext_getElem (by simp) fun j h1 h2 => ?_
    simp [List.getD_eq_getElem?_getD, h2]
  rw [e2]; simp
theorem cp_pad' {vs : List Value} {n m : Nat} (d : Value) (h : vs.length ≤ n) (hm : n ≤ m) (i : Nat) : vs.getD i d = ((List.replicate m d).take 0 ++ (List.range n).map (fun i => vs.getD (0 + i) d) ++ (List.replicate m d).drop (0 + n)).getD i d := by
  simp only [List.getD_eq_getElem?_getD, List.take_zero, List.nil_append, Nat.zero_add]
  rcases Nat.lt_or_ge i n with q | q
  · rw [List.getElem?_append_left (by simp; exact q)]
    simp [List.getElem?_map, List.getElem?_range, q]
  · rw [List.getElem?_append_right (by simp; exact q), List.getElem?_eq_none (by omega : vs.length ≤ i)]
    simp only [List.getElem?_drop, List.getElem?_replicate]
    split <;> rfl
theorem gt_sub0 {m cap : Nat} (h : cap < m) (hc : m ≤ 4000) : (0 : Int32) < Int32.ofNat m - Int32.ofNat cap := by
  have q := c_isub (Int32.ofNat m) (Int32.ofNat cap); have r := rng32 (Int32.ofNat m - Int32.ofNat cap)
  rw [ofN (by omega), ofN (by omega)] at q
  rw [Int32.lt_iff_toInt_lt, tI0]; omega
theorem max_val {b d : Nat} (h : b ≤ d) (hd : d ≤ 4000) : (if Int32.ofNat b < Int32.ofNat d then Int32.ofNat d else Int32.ofNat b) = Int32.ofNat d := by
  by_cases q : b < d
  · rw [if_pos ((ofN_lt2 (by omega) hd).mpr q)]
  · rw [if_neg (fun z => q ((ofN_lt2 (by omega) hd).mp z)), show b = d by omega]
end Jvm.OwnK
namespace Jvm.OwnH
/-! plain lists: a field within blanks, a quoted string's escapes; no program in sight -/
def e1 (q c : Int32) : List Int32 := if q = 0 then [c] else if c = 34 ∨ c = 92 then [92, c] else [c]
def enc (q : Int32) : List Int32 → List Int32
  | [] => []
  | c :: k => e1 q c ++ enc q k
def body (q : Int32) (ks : List Int32) : List Int32 := if q = 0 then ks else 34 :: (enc q ks ++ [34])
theorem enc_app (q : Int32) (b : List Int32) : ∀ a : List Int32, enc q (a ++ b) = enc q a ++ enc q b
  | [] => rfl
  | c :: a => by show e1 q c ++ enc q (a ++ b) = e1 q c ++ enc q a ++ enc q b; rw [enc_app q b a, List.append_assoc]
theorem enc0 : ∀ ks : List Int32, enc 0 ks = ks
  | [] => rfl
  | c :: k => by show e1 0 c ++ enc 0 k = c :: k; rw [enc0 k]; rfl
def Sp (Bl : List Int32) (l : Nat) (w : List Int32) : List Int32 := Bl.take l ++ w ++ Bl.drop (l + w.length)
theorem Sp_nil (Bl : List Int32) (l : Nat) : Sp Bl l [] = Bl := by simp [Sp]
section
variable {Bl : List Int32} {l : Nat} {w : List Int32}
theorem Sp_len (h : l + w.length ≤ Bl.length) : (Sp Bl l w).length = Bl.length := by
  unfold Sp; simp only [List.length_append, List.length_take, List.length_drop]; omega
theorem Sp_set {c : Int32} (h : l + w.length < Bl.length) : (Sp Bl l w).set (l + w.length) c = Sp Bl l (w ++ [c]) := by
  have lt : (Bl.take l ++ w).length = l + w.length := by simp only [List.length_append, List.length_take]; omega
  unfold Sp
  rw [List.set_append_right _ _ (by omega), lt, Nat.sub_self, List.length_append]
  have : Bl.drop (l + w.length) = Bl.getD (l + w.length) 0 :: Bl.drop (l + w.length + 1) := by
    rw [List.drop_eq_getElem_cons h]; simp [List.getD_eq_getElem?_getD, h]
  rw [this, List.set_cons_zero]
  simp [Nat.add_assoc]
theorem Sp_lo (h : l + w.length ≤ Bl.length) {j : Nat} (hj : j < l) : (Sp Bl l w).getD j 0 = Bl.getD j 0 := by
  unfold Sp
  simp only [List.getD_eq_getElem?_getD]
  rw [List.append_assoc, List.getElem?_append_left (by rw [List.length_take]; omega), List.getElem?_take, if_pos hj]
theorem Sp_mid (h : l + w.length ≤ Bl.length) {j : Nat} (hj : j < w.length) : (Sp Bl l w).getD (l + j) 0 = w.getD j 0 := by
  have lt : (Bl.take l).length = l := by rw [List.length_take]; omega
  unfold Sp
  simp only [List.getD_eq_getElem?_getD]
  rw [List.append_assoc, List.getElem?_append_right (by omega), lt, Nat.add_sub_cancel_left, List.getElem?_append_left hj]
theorem Sp_hi (h : l + w.length ≤ Bl.length) {j : Nat} (hj : l + w.length ≤ j) : (Sp Bl l w).getD j 0 = Bl.getD j 0 := by
  have lt : (Bl.take l ++ w).length = l + w.length := by simp only [List.length_append, List.length_take]; omega
  unfold Sp
  simp only [List.getD_eq_getElem?_getD]
  rw [List.getElem?_append_right (by omega), lt, List.getElem?_drop, show l + w.length + (j - (l + w.length)) = j by omega]
theorem Sp_cut (h : l + w.length ≤ Bl.length) : ((Sp Bl l w).take (l + w.length)).drop l = w := by
  have lt : (Bl.take l ++ w).length = l + w.length := by simp only [List.length_append, List.length_take]; omega
  have l0 : (Bl.take l).length = l := by rw [List.length_take]; omega
  unfold Sp
  rw [List.take_append_of_le_length (by omega), List.take_of_length_le (by omega), List.drop_append_of_le_length (by omega), List.drop_of_length_le (by omega), List.nil_append]
def bl (c : Int32) : Prop := c = 32 ∨ c = 9
theorem getD_mem {L : List Int32} {P : Int32 → Prop} (h : ∀ c ∈ L, P c) {j : Nat} (hj : j < L.length) : P (L.getD j 0) := by
  have : L.getD j 0 = L[j] := by simp [List.getD_eq_getElem?_getD, hj]
  rw [this]; exact h _ (List.getElem_mem hj)
theorem trim {st en : Nat} (hB : ∀ c ∈ Bl, bl c) (hl : l + w.length ≤ Bl.length) (hw : w = [] ∨ (¬ bl (w.getD 0 0) ∧ ¬ bl (w.getD (w.length - 1) 0))) (h1 : st ≤ en) (h2 : en ≤ Bl.length)
    (a1 : ∀ j, j < st → bl ((Sp Bl l w).getD j 0)) (a2 : st = Bl.length ∨ ¬ bl ((Sp Bl l w).getD st 0)) (b1 : ∀ j, en ≤ j → j < Bl.length → bl ((Sp Bl l w).getD j 0)) (b2 : en = st ∨ ¬ bl ((Sp Bl l w).getD (en - 1) 0)) :
    ((Sp Bl l w).take en).drop st = w := by
  by_cases e : w = []
  · subst e
    rw [Sp_nil] at *
    have : st = Bl.length := a2.elim id fun q => by
      rcases Nat.lt_or_ge st Bl.length with r | r
      · exact absurd (getD_mem hB r) q
      · omega
    rw [List.drop_of_length_le]
    rw [List.length_take]; omega
  · have hne : 0 < w.length := List.length_pos_iff.mpr e
    obtain ⟨w1, w2⟩ := hw.resolve_left e
    have s1 : st = l := by
      rcases Nat.lt_trichotomy st l with r | r | r
      · refine absurd (getD_mem (L := Bl) hB (j := st) (by omega)) ?_
        rw [← Sp_lo hl r]
        exact a2.resolve_left (by omega)
      · exact r
      · have q := a1 l r
        rw [show (Sp Bl l w).getD l 0 = w.getD 0 0 from Sp_mid (j := 0) hl hne] at q
        exact absurd q w1
    have s2 : en = l + w.length := by
      rcases Nat.lt_trichotomy en (l + w.length) with r | r | r
      · have q := b1 (l + (w.length - 1)) (by omega) (by omega)
        rw [Sp_mid (j := w.length - 1) hl (by omega)] at q
        exact absurd q w2
      · exact r
      · refine absurd (getD_mem (L := Bl) hB (j := en - 1) (by omega)) ?_
        rw [← Sp_hi (j := en - 1) hl (by omega)]
        exact b2.resolve_left (by omega)
    rw [s1, s2]; exact Sp_cut hl
end
/-- a quoted field, behind the keys done -/
theorem q_at (done rest : List Int32) (j : Nat) : (body 1 (done ++ rest)).getD (1 + (enc 1 done).length + j) 0 = (enc 1 rest ++ [34]).getD j 0 := by
  show (34 :: (enc 1 (done ++ rest) ++ [34])).getD (1 + (enc 1 done).length + j) 0 = _
  rw [enc_app, show 1 + (enc 1 done).length + j = ((enc 1 done).length + j) + 1 by omega, List.getD_cons_succ, List.append_assoc]
  simp only [List.getD_eq_getElem?_getD]
  rw [List.getElem?_append_right (by omega), Nat.add_sub_cancel_left]
theorem q_len (ks : List Int32) : (body 1 ks).length = (enc 1 ks).length + 2 := by
  show (34 :: (enc 1 ks ++ [34])).length = _
  simp
theorem e1_esc {c : Int32} (h : c = 34 ∨ c = 92) : e1 1 c = [92, c] := by unfold e1; rw [if_neg (by decide), if_pos h]
theorem e1_not {c : Int32} (h : ¬ (c = 34 ∨ c = 92)) : e1 1 c = [c] := by unfold e1; rw [if_neg (by decide), if_neg h]
theorem body_ends {q : Int32} {ks : List Int32} (h : q = 0 → ∀ c ∈ ks, ¬ bl c) : body q ks = [] ∨ (¬ bl ((body q ks).getD 0 0) ∧ ¬ bl ((body q ks).getD ((body q ks).length - 1) 0)) := by
  by_cases e : q = 0
  · have eb : body q ks = ks := if_pos e
    rw [eb]
    by_cases n : ks = []
    · exact Or.inl n
    · have : 0 < ks.length := List.length_pos_iff.mpr n
      exact Or.inr ⟨getD_mem (h e) this, getD_mem (h e) (by omega)⟩
  · have eb : body q ks = 34 :: (enc q ks ++ [34]) := if_neg e
    rw [eb]
    refine Or.inr ⟨fun z => ?_, fun z => ?_⟩
    · have z' : bl 34 := z
      unfold bl at z'; revert z'; decide
    · have : (34 :: (enc q ks ++ [34])).getD ((34 :: (enc q ks ++ [34])).length - 1) 0 = 34 := by
        simp [List.getD_eq_getElem?_getD]
      rw [this] at z
      unfold bl at z; revert z; decide
theorem ofN_dec {j : Nat} (h : 0 < j) (g : j ≤ 4000) : Int32.ofNat j + (-1 : Int32) = Int32.ofNat (j - 1) := by
  rw [show Int32.ofNat j + (-1 : Int32) = Int32.ofNat j - Int32.ofNat 1 from (Int32.sub_eq_add_neg ..).symm]
  exact Jvm.OwnK.ofN_sub g h
end Jvm.OwnH
/- laws to paste: Road.lenW, Road.chN, Road.backV, Road.codOf (cut by pick.py; bodies as the Statement names them) -/
namespace Jvm.Pilot.@@N@@
namespace StrChars
open Jvm Sem ClassFile Op Lib Jvm.Stand Jvm.Free.XT Jvm.Free.ALB Jvm.Free.JM Jvm.Free
open Jvm.Lib.Cold (StaticIs)
/-- a char array whose places are chars -/
def Ch (a : Addr) (A : Cell) (U : State) : Prop := Arr .char a A U ∧ Typed .char A
theorem Ch.mv {a : Addr} {A : Cell} {U U' : State} (h : Ch a A U) (hal : U.vm.Alike U'.vm) (hh : U'.heap = U.heap) : Ch a A U' := ⟨h.1.mv hal hh, h.2⟩
theorem Ch.keep {a : Addr} {A : Cell} {U U' : State} (h : Ch a A U) (hal : U.vm.Alike U'.vm) (hk : U'.heap[a]? = some A) : Ch a A U' := ⟨h.1.keep hal hk, h.2⟩
/-- what place i of a char[]'s cell holds -/
def cv (A : Cell) (i : Nat) : Int32 := match A.slots[i]? with | some (.int x) => x | _ => 0
theorem Ch.get {a : Addr} {A : Cell} {U : State} (h : Ch a A U) {i : Nat} (hi : i < A.slots.size) : A.slots[i]? = some (.int (cv A i)) := by
  have e := Array.getElem?_eq_getElem hi
  have f := h.2 i _ e
  unfold cv; rw [e]
  generalize A.slots[i] = v at f
  cases v <;> simp [fits] at f ⊢
/-- the byte that i2b leaves of a char -/
def lo8 (x : Int32) : Int32 := x.toInt8.toInt32
theorem fits_lo8 (y : Int32) : fits .byte (.int (lo8 y)) = true := by
  have h1 := y.toInt8.le_toInt
  have h2 := y.toInt8.toInt_lt
  simp only [lo8, fits, Bool.and_eq_true, decide_eq_true_eq, Int32.le_iff_toInt_le, Int8.toInt_toInt32, show (-128 : Int32).toInt = -128 from by decide, show (127 : Int32).toInt = 127 from by decide]
  omega
/-- A' is A but that each place j of lo .. hi - 1 holds f j -/
def Laid (A A' : Cell) (lo hi : Nat) (f : Nat → Value) : Prop := A'.cls = A.cls ∧ A'.vm = A.vm ∧ A'.slots.size = A.slots.size ∧ ∀ i, A'.slots[i]? = if lo ≤ i ∧ i < hi then some (f i) else A.slots[i]?
theorem Laid.zero (A : Cell) (lo : Nat) (f : Nat → Value) : Laid A A lo (lo + 0) f := ⟨rfl, rfl, rfl, fun i => by rw [if_neg (by omega)]⟩
theorem Laid.step {A Ak : Cell} {lo k : Nat} {f : Nat → Value} {v : Value} (h : Laid A Ak lo k f) (hlo : lo ≤ k) (hk : k < Ak.slots.size) (hv : v = f k) : Laid A (Ak.setSlot k v) lo (k + 1) f := by
  refine ⟨h.1, h.2.1, by simpa [Cell.setSlot] using h.2.2.1, fun i => ?_⟩
  by_cases e : k = i
  · subst e; rw [Cell.slots_setSlot_self v hk, if_pos (by omega), hv]
  · rw [Cell.slots_setSlot_ne v e, h.2.2.2 i]
    by_cases q : lo ≤ i ∧ i < k
    · rw [if_pos q, if_pos (by omega)]
    · rw [if_neg q, if_neg (by omega)]
def U16 : String := "java/lang/StringUTF16"
namespace Cmp5
def yN : MethodName := ⟨"java/lang/StringUTF16", "compress", "([CI[BII)I"⟩
abbrev yB : ByteArray := jdk_52_method_21_code
theorem d0 : decode yB 0 = .ok (.iconst 0, 1) := by decide +kernel
theorem d1 : decode yB 1 = .ok (.istore 5, 2) := by decide +kernel
theorem d3 : decode yB 3 = .ok (.iload 5, 2) := by decide +kernel
theorem d5 : decode yB 5 = .ok (.iload 4, 2) := by decide +kernel
theorem d7 : decode yB 7 = .ok (.if_icmp (.ge) 37, 3) := by decide +kernel
theorem d10 : decode yB 10 = .ok (.aload_n 0, 1) := by decide +kernel
theorem d11 : decode yB 11 = .ok (.iload_n 1, 1) := by decide +kernel
theorem d12 : decode yB 12 = .ok (.caload, 1) := by decide +kernel
theorem d13 : decode yB 13 = .ok (.istore 6, 2) := by decide +kernel
theorem d15 : decode yB 15 = .ok (.iload 6, 2) := by decide +kernel
theorem d17 : decode yB 17 = .ok (.sipush 255, 3) := by decide +kernel
theorem d20 : decode yB 20 = .ok (.if_icmp (.le) 6, 3) := by decide +kernel
theorem d26 : decode yB 26 = .ok (.aload_n 2, 1) := by decide +kernel
theorem d27 : decode yB 27 = .ok (.iload_n 3, 1) := by decide +kernel
theorem d28 : decode yB 28 = .ok (.iload 6, 2) := by decide +kernel
theorem d30 : decode yB 30 = .ok (.i2b, 1) := by decide +kernel
theorem d31 : decode yB 31 = .ok (.bastore, 1) := by decide +kernel
theorem d32 : decode yB 32 = .ok (.iinc 1 1, 3) := by decide +kernel
theorem d35 : decode yB 35 = .ok (.iinc 3 1, 3) := by decide +kernel
theorem d38 : decode yB 38 = .ok (.iinc 5 1, 3) := by decide +kernel
theorem d41 : decode yB 41 = .ok (.goto (-38), 3) := by decide +kernel
theorem d44 : decode yB 44 = .ok (.iload 4, 2) := by decide +kernel
theorem d46 : decode yB 46 = .ok (.ireturn, 1) := by decide +kernel
def site : List Cond := []
def tab : Cond := tabOf yN yB 7 (some .int) site
def P (b : Addr) (A : Cell) (d : Addr) (B : Cell) (o q len : Nat) (args : Array Value) (s : State) : Prop := args = #[.ref b, .int (Int32.ofNat o), .ref d, .int (Int32.ofNat q), .int (Int32.ofNat len)] ∧ Ch b A s ∧ Arr .byte d B s ∧ b ≠ d ∧ o + len ≤ A.slots.size ∧ q + len ≤ B.slots.size ∧ ∀ i, i < len → ¬ 255 < cv A (o + i)
def E (b : Addr) (A : Cell) (d : Addr) (B : Cell) (o q len : Nat) (r : Option Value) (s u : State) : Prop := r = some (.int (Int32.ofNat len)) ∧ ∃ B', Put d B' s u ∧ Laid B B' q (q + len) (fun j => Value.int (lo8 (cv A (o + (j - q)))))
/-- no char of the range above 255: len; the places written hold each char's low byte -/
theorem law (l : Launch) (b : Addr) (A : Cell) (d : Addr) (B : Cell) (o q len : Nat) : Law l yN 5 5 0 0 yB 7 (some .int) site (P b A d B o q len) (E b A d B o q len) (copyLocs d q len) 0 0 := by
  refine Law.of_walk (plainFor_of_name (by decide +kernel)) (by decide +kernel) (by decide +kernel) (by decide) (fun _ _ h => by rw [h.1]; rfl) (fun _ U U' hal hh h => ⟨h.1, h.2.1.mv hal hh, h.2.2.1.mv hal hh, h.2.2.2⟩) (fun r U U' V V' h1 hal h2 h => ⟨h.1, h.2.elim fun B' q => ⟨B', q.1.mv h1 h2, q.2⟩⟩) ?_
  intro p e s m args below meth c s₁ X0 hexec hbytes hml hret hlk hnm hown hh0 W hP
  obtain ⟨rfl, hA, hB, hne, l1, l2, hp⟩ := hP
  have c1 : Steps p.tables e below (s₁.setTop (entryFrame m #[.ref b, .int (Int32.ofNat o), .ref d, .int (Int32.ofNat q), .int (Int32.ofNat len)] 7)) (s₁.setTop (mkF m 0 #[.val (.ref b), .val (.int (Int32.ofNat o)), .val (.ref d), .val (.int (Int32.ofNat q)), .val (.int (Int32.ofNat len)), .unset, .unset] [])) := entry rfl
  have hA0 := hA.1.mv X0.warmed.alike hh0
  have hB0 := hB.mv X0.warmed.alike hh0
  have a31 := hA.1.2.2.2
  have c2 : Steps p.tables e below (s₁.setTop (entryFrame m #[.ref b, .int (Int32.ofNat o), .ref d, .int (Int32.ofNat q), .int (Int32.ofNat len)] 7)) (s₁.setTop (mkF m 3 #[.val (.ref b), .val (.int (Int32.ofNat o)), .val (.ref d), .val (.int (Int32.ofNat q)), .val (.int (Int32.ofNat len)), .val (.int 0), .unset] [])) := c1.trans (by
    refine iconstV X0.here hexec rfl 0 (hb hbytes d0) (by decide) ?_
    refine XS.istore X0.here hexec rfl (hb hbytes d1) rfl rfl ?_
    exact Steps.refl _)
  have loop : ∀ (r i : Nat), i + r = len → ∀ (z : Slot), (z = .unset ∨ ∃ w, z = .val w ∧ w.category = 1) → ∀ (Tl : State) (Bk : Cell), Stand p l e { frames := 0, locals := 0, cells := 0, slots := 0 } s m #[.ref b, .int (Int32.ofNat o), .ref d, .int (Int32.ofNat q), .int (Int32.ofNat len)] below meth c Tl ([] ++ copyLocs d q i) 0 0 → Put d Bk s₁ Tl → Laid B Bk q (q + i) (fun j => Value.int (lo8 (cv A (o + (j - q))))) →
      Steps p.tables e below (s₁.setTop (entryFrame m #[.ref b, .int (Int32.ofNat o), .ref d, .int (Int32.ofNat q), .int (Int32.ofNat len)] 7)) (Tl.setTop (mkF m 3 #[.val (.ref b), .val (.int (Int32.ofNat (o + i))), .val (.ref d), .val (.int (Int32.ofNat (q + i))), .val (.int (Int32.ofNat len)), .val (.int (Int32.ofNat i)), z] [])) → ∃ (T' : State) (B' : Cell) (z' : Slot), Stand p l e { frames := 0, locals := 0, cells := 0, slots := 0 } s m #[.ref b, .int (Int32.ofNat o), .ref d, .int (Int32.ofNat q), .int (Int32.ofNat len)] below meth c T' ([] ++ copyLocs d q len) 0 0 ∧ Put d B' s₁ T' ∧ Laid B B' q (q + len) (fun j => Value.int (lo8 (cv A (o + (j - q))))) ∧
      Steps p.tables e below (s₁.setTop (entryFrame m #[.ref b, .int (Int32.ofNat o), .ref d, .int (Int32.ofNat q), .int (Int32.ofNat len)] 7)) (T'.setTop (mkF m 3 #[.val (.ref b), .val (.int (Int32.ofNat (o + len))), .val (.ref d), .val (.int (Int32.ofNat (q + len))), .val (.int (Int32.ofNat len)), .val (.int (Int32.ofNat len)), z'] [])) := by
    intro r
    induction r with
    | zero =>
      intro i hi z hz Tl Bk Xl pl fl cl
      have hil : i = len := by omega
      rw [hil] at Xl fl cl
      exact ⟨Tl, Bk, z, Xl, pl, fl, cl⟩
    | succ r ih =>
      intro i hi z hz Tl Bk Xl pl fl cl
      have all := X0.warmed.alike.symm.trans Xl.warmed.alike
      have hAl := hA0.keep all (pl.other hne hA0.1)
      have hBk := hB0.like all pl.1 fl.1 fl.2.1 fl.2.2.1
      have hlt : q + i < Bk.slots.size := by rw [fl.2.2.1]; omega
      have c3 : Steps p.tables e below (s₁.setTop (entryFrame m #[.ref b, .int (Int32.ofNat o), .ref d, .int (Int32.ofNat q), .int (Int32.ofNat len)] 7)) (Tl.setTop (mkF m 12 #[.val (.ref b), .val (.int (Int32.ofNat (o + i))), .val (.ref d), .val (.int (Int32.ofNat (q + i))), .val (.int (Int32.ofNat len)), .val (.int (Int32.ofNat i)), z] [.int (Int32.ofNat (o + i)), .ref b])) := cl.trans (by
        refine XS.iload Xl.here hexec rfl (hb hbytes d3) rfl ?_
        refine XS.iload Xl.here hexec rfl (hb hbytes d5) rfl ?_
        refine XS.icmpNo Xl.here hexec rfl (hb hbytes d7) rfl (ii_ge_f (lt32 (by omega) (by omega))) ?_
        refine XS.aloadN Xl.here hexec rfl (hb hbytes d10) rfl rfl ?_
        refine XS.iloadN Xl.here hexec rfl (hb hbytes d11) rfl ?_
        exact Steps.refl _)
      have c4 : Steps p.tables e below (s₁.setTop (entryFrame m #[.ref b, .int (Int32.ofNat o), .ref d, .int (Int32.ofNat q), .int (Int32.ofNat len)] 7)) (Tl.setTop (mkF m 13 #[.val (.ref b), .val (.int (Int32.ofNat (o + i))), .val (.ref d), .val (.int (Int32.ofNat (q + i))), .val (.int (Int32.ofNat len)), .val (.int (Int32.ofNat i)), z] [.int (cv A (o + i))])) := c3.trans (by
        refine Xl.aget hexec hAl rfl (hA.get (i := o + i) (by omega)) rfl rfl (hb hbytes d12) ?_
        exact Steps.refl _)
      have c5 : Steps p.tables e below (s₁.setTop (entryFrame m #[.ref b, .int (Int32.ofNat o), .ref d, .int (Int32.ofNat q), .int (Int32.ofNat len)] 7)) (Tl.setTop (mkF m 15 #[.val (.ref b), .val (.int (Int32.ofNat (o + i))), .val (.ref d), .val (.int (Int32.ofNat (q + i))), .val (.int (Int32.ofNat len)), .val (.int (Int32.ofNat i)), .val (.int (cv A (o + i)))] [])) := c4.trans (by
        refine XS.istoreS Xl.here hexec rfl (hb hbytes d13) rfl rfl hz ?_
        exact Steps.refl _)
      have c6 : Steps p.tables e below (s₁.setTop (entryFrame m #[.ref b, .int (Int32.ofNat o), .ref d, .int (Int32.ofNat q), .int (Int32.ofNat len)] 7)) (Tl.setTop (mkF m 31 #[.val (.ref b), .val (.int (Int32.ofNat (o + i))), .val (.ref d), .val (.int (Int32.ofNat (q + i))), .val (.int (Int32.ofNat len)), .val (.int (Int32.ofNat i)), .val (.int (cv A (o + i)))] [.int (lo8 (cv A (o + i))), .int (Int32.ofNat (q + i)), .ref d])) := c5.trans (by
        refine XS.iload Xl.here hexec rfl (hb hbytes d15) rfl ?_
        refine sipushV Xl.here hexec rfl 255 (hb hbytes d17) (by decide) ?_
        refine XS.icmpYes Xl.here hexec rfl (pc0 := 20) rfl (hb hbytes d20) rfl (ii_le_t (hp i (by omega))) (by decide) rfl ?_
        refine XS.aloadN Xl.here hexec rfl (hb hbytes d26) rfl rfl ?_
        refine XS.iloadN Xl.here hexec rfl (hb hbytes d27) rfl ?_
        refine XS.iload Xl.here hexec rfl (hb hbytes d28) rfl ?_
        refine i2b Xl.here hexec rfl (hb hbytes d30) rfl ?_
        exact Steps.refl _)
      obtain ⟨T7, X7, p7, st7⟩ := Xl.aput hexec hBk rfl hlt rfl (fits_lo8 (cv A (o + i))) (g := (mkF m 31 #[.val (.ref b), .val (.int (Int32.ofNat (o + i))), .val (.ref d), .val (.int (Int32.ofNat (q + i))), .val (.int (Int32.ofNat len)), .val (.int (Int32.ofNat i)), .val (.int (cv A (o + i)))] [.int (lo8 (cv A (o + i))), .int (Int32.ofNat (q + i)), .ref d])) rfl (rest := []) rfl (hb hbytes d31)
      have c8 : Steps p.tables e below (s₁.setTop (entryFrame m #[.ref b, .int (Int32.ofNat o), .ref d, .int (Int32.ofNat q), .int (Int32.ofNat len)] 7)) (T7.setTop (mkF m 32 #[.val (.ref b), .val (.int (Int32.ofNat (o + i))), .val (.ref d), .val (.int (Int32.ofNat (q + i))), .val (.int (Int32.ofNat len)), .val (.int (Int32.ofNat i)), .val (.int (cv A (o + i)))] [])) := c6.trans (st7 _ (Steps.refl _))
      have c9 : Steps p.tables e below (s₁.setTop (entryFrame m #[.ref b, .int (Int32.ofNat o), .ref d, .int (Int32.ofNat q), .int (Int32.ofNat len)] 7)) (T7.setTop (mkF m 3 #[.val (.ref b), .val (.int (Int32.ofNat (o + i) + 1)), .val (.ref d), .val (.int (Int32.ofNat (q + i) + 1)), .val (.int (Int32.ofNat len)), .val (.int (Int32.ofNat i + 1)), .val (.int (cv A (o + i)))] [])) := c8.trans (by
        refine iincV X7.here hexec rfl 1 (hb hbytes d32) (by decide) rfl rfl ?_
        refine iincV X7.here hexec rfl 1 (hb hbytes d35) (by decide) rfl rfl ?_
        refine iincV X7.here hexec rfl 1 (hb hbytes d38) (by decide) rfl rfl ?_
        refine XS.goto X7.here hexec rfl (pc0 := 41) rfl (hb hbytes d41) (by decide) rfl ?_
        exact Steps.refl _)
      have c10 : Steps p.tables e below (s₁.setTop (entryFrame m #[.ref b, .int (Int32.ofNat o), .ref d, .int (Int32.ofNat q), .int (Int32.ofNat len)] 7)) (T7.setTop (mkF m 3 #[.val (.ref b), .val (.int (Int32.ofNat (o + (i + 1)))), .val (.ref d), .val (.int (Int32.ofNat (q + (i + 1)))), .val (.int (Int32.ofNat len)), .val (.int (Int32.ofNat (i + 1))), .val (.int (cv A (o + i)))] [])) := by
        have := c9
        rw [succ32, succ32, succ32] at this
        exact this
      exact ih (i + 1) (by omega) _ (Or.inr ⟨_, rfl, rfl⟩) T7 _ (by rw [copyLocs_step, ← List.append_assoc]; exact X7) (pl.trans p7) (fl.step (by omega) hlt (by simp)) c10
  obtain ⟨T9, B9, z9, X9, p9, f9, g9⟩ := loop len 0 (by omega) .unset (Or.inl rfl) s₁ B (by simpa [copyLocs] using X0) ⟨hB0.1, fun _ _ => rfl, rfl⟩ (Laid.zero _ _ _) c2
  have c11 : Steps p.tables e below (s₁.setTop (entryFrame m #[.ref b, .int (Int32.ofNat o), .ref d, .int (Int32.ofNat q), .int (Int32.ofNat len)] 7)) (T9.setTop (mkF m 46 #[.val (.ref b), .val (.int (Int32.ofNat (o + len))), .val (.ref d), .val (.int (Int32.ofNat (q + len))), .val (.int (Int32.ofNat len)), .val (.int (Int32.ofNat len)), z9] [.int (Int32.ofNat len)])) := g9.trans (by
    refine XS.iload X9.here hexec rfl (hb hbytes d3) rfl ?_
    refine XS.iload X9.here hexec rfl (hb hbytes d5) rfl ?_
    refine XS.icmpYes X9.here hexec rfl (pc0 := 7) rfl (hb hbytes d7) rfl (ii_ge_t (nlt32 (by omega) (Nat.le_refl _))) (by decide) rfl ?_
    refine XS.iload X9.here hexec rfl (hb hbytes d44) rfl ?_
    exact Steps.refl _)
  exact ⟨T9, some (.int (Int32.ofNat len)), _, _, _, X9, by simp, rfl, rfl, (fun h => by cases h), ⟨rfl, B9, p9.from hh0, f9⟩, fun fs hl => c11.trans (X9.ireturnOut hexec hret rfl (Or.inl rfl) (hb hbytes d46) hl)⟩
end Cmp5
namespace Cmp3
def yN : MethodName := ⟨"java/lang/StringUTF16", "compress", "([CII)[B"⟩
abbrev yB : ByteArray := jdk_52_method_16_code
theorem d0 : decode yB 0 = .ok (.iload_n 2, 1) := by decide +kernel
theorem d1 : decode yB 1 = .ok (.newarray .byte, 2) := by decide +kernel
theorem d3 : decode yB 3 = .ok (.astore_n 3, 1) := by decide +kernel
theorem d4 : decode yB 4 = .ok (.aload_n 0, 1) := by decide +kernel
theorem d5 : decode yB 5 = .ok (.iload_n 1, 1) := by decide +kernel
theorem d6 : decode yB 6 = .ok (.aload_n 3, 1) := by decide +kernel
theorem d7 : decode yB 7 = .ok (.iconst 0, 1) := by decide +kernel
theorem d8 : decode yB 8 = .ok (.iload_n 2, 1) := by decide +kernel
theorem d9 : decode yB 9 = .ok (.invokestatic 115, 3) := by decide +kernel
theorem d12 : decode yB 12 = .ok (.istore 4, 2) := by decide +kernel
theorem d14 : decode yB 14 = .ok (.iload 4, 2) := by decide +kernel
theorem d16 : decode yB 16 = .ok (.iload_n 2, 1) := by decide +kernel
theorem d17 : decode yB 17 = .ok (.if_icmp (.eq) 40, 3) := by decide +kernel
theorem d57 : decode yB 57 = .ok (.aload_n 3, 1) := by decide +kernel
theorem d58 : decode yB 58 = .ok (.areturn, 1) := by decide +kernel
def site : List Cond := [.arrayClass .byte, Cmp5.tab] ++ staticW U16 115 Cmp5.yN
def tab : Cond := tabOf yN yB 6 (some (.array .byte)) site
def P (b : Addr) (A : Cell) (o len : Nat) (args : Array Value) (s : State) : Prop := args = #[.ref b, .int (Int32.ofNat o), .int (Int32.ofNat len)] ∧ Ch b A s ∧ o + len ≤ A.slots.size ∧ len ≤ 536870912 ∧ ∀ i, i < len → ¬ 255 < cv A (o + i)
def E (b : Addr) (A : Cell) (o len : Nat) (r : Option Value) (s u : State) : Prop := NewArr .byte "[B" len (fun j => .int (lo8 (cv A (o + j)))) r s u ∧ u.heap.size = s.heap.size + 1
/-- no char of the range above 255: a new byte[] of their low bytes -/
theorem law (l : Launch) (b : Addr) (A : Cell) (o len : Nat) : Law l yN 3 3 1 18 yB 6 (some (.array .byte)) site (P b A o len) (E b A o len) [] 1 len := by
  refine Law.of_walk (plainFor_of_name (by decide +kernel)) (by decide +kernel) (by decide +kernel) (by decide) (fun _ _ h => by rw [h.1]; rfl) (fun _ U U' hal hh h => ⟨h.1, h.2.1.mv hal hh, h.2.2⟩) (fun r U U' V V' h1 hal h2 h => ⟨NewArr.mv r U U' V V' h1 hal h2 h.1, by rw [h1, h2]; exact h.2⟩) ?_
  intro p e s m args below meth c s₁ X0 hexec hbytes hml hret hlk hnm hown hh0 W hP
  obtain ⟨rfl, hA, l1, l2, hp⟩ := hP
  have a31 := hA.1.2.2.2
  have c1 : Steps p.tables e below (s₁.setTop (entryFrame m #[.ref b, .int (Int32.ofNat o), .int (Int32.ofNat len)] 6)) (s₁.setTop (mkF m 0 #[.val (.ref b), .val (.int (Int32.ofNat o)), .val (.int (Int32.ofNat len)), .unset, .unset, .unset] [])) := entry rfl
  have c2 : Steps p.tables e below (s₁.setTop (entryFrame m #[.ref b, .int (Int32.ofNat o), .int (Int32.ofNat len)] 6)) (s₁.setTop (mkF m 1 #[.val (.ref b), .val (.int (Int32.ofNat o)), .val (.int (Int32.ofNat len)), .unset, .unset, .unset] [.int (Int32.ofNat len)])) := c1.trans (by
    refine XS.iloadN X0.here hexec rfl (hb hbytes d0) rfl ?_
    exact Steps.refl _)
  obtain ⟨T3, B3, X3, ba3, bs3, bv3, bh3, bf3, st3⟩ := X0.anew hexec (atype := .byte) (wk W (.arrayClass .byte)) rfl (by show len * 1 ≤ _; omega) (by omega) (g := (mkF m 1 #[.val (.ref b), .val (.int (Int32.ofNat o)), .val (.int (Int32.ofNat len)), .unset, .unset, .unset] [.int (Int32.ofNat len)])) rfl (hb hbytes d1) (rest := []) rfl (Nat.le_refl _) (by show 0 + len ≤ len; omega)
  rw [hh0] at ba3 st3
  have kp3 : XT.Kept s T3 := (XT.Kept.of_eq hh0).push bh3
  have hA3 := hA.keep X3.warmed.alike (kp3 _ _ hA.1.1)
  have hne : b ≠ s.heap.size := hA.1.ne
  have c4 : Steps p.tables e below (s₁.setTop (entryFrame m #[.ref b, .int (Int32.ofNat o), .int (Int32.ofNat len)] 6)) (T3.setTop (mkF m 3 #[.val (.ref b), .val (.int (Int32.ofNat o)), .val (.int (Int32.ofNat len)), .unset, .unset, .unset] [.ref s.heap.size])) := c2.trans (st3 _ (Steps.refl _))
  have c5 : Steps p.tables e below (s₁.setTop (entryFrame m #[.ref b, .int (Int32.ofNat o), .int (Int32.ofNat len)] 6)) (T3.setTop (mkF m 9 #[.val (.ref b), .val (.int (Int32.ofNat o)), .val (.int (Int32.ofNat len)), .val (.ref s.heap.size), .unset, .unset] [.int (Int32.ofNat len), .int 0, .ref s.heap.size, .int (Int32.ofNat o), .ref b])) := c4.trans (by
    refine XS.astoreN X3.here hexec rfl (hb hbytes d3) rfl rfl rfl ?_
    refine XS.aloadN X3.here hexec rfl (hb hbytes d4) rfl rfl ?_
    refine XS.iloadN X3.here hexec rfl (hb hbytes d5) rfl ?_
    refine XS.aloadN X3.here hexec rfl (hb hbytes d6) rfl rfl ?_
    refine iconstV X3.here hexec rfl 0 (hb hbytes d7) (by decide) ?_
    refine XS.iloadN X3.here hexec rfl (hb hbytes d8) rfl ?_
    exact Steps.refl _)
  obtain ⟨v6, T6, X6, E6, g6⟩ := X3.callS hexec (Cmp5.law l b A s.heap.size B3 o 0 len) hown (wks W (staticW U16 115 Cmp5.yN)) (wk W Cmp5.tab) (W := 0) (Nat.le_of_ble_eq_true rfl) (Nat.le_of_ble_eq_true rfl) (Nat.le_refl _) (by show 0 + len + 0 ≤ len; omega) (g := (mkF m 9 #[.val (.ref b), .val (.int (Int32.ofNat o)), .val (.int (Int32.ofNat len)), .val (.ref s.heap.size), .unset, .unset] [.int (Int32.ofNat len), .int (Int32.ofNat 0), .ref s.heap.size, .int (Int32.ofNat o), .ref b])) rfl (by rw [hml]; rfl) c5 (argsL := [.ref b, .int (Int32.ofNat o), .ref s.heap.size, .int (Int32.ofNat 0), .int (Int32.ofNat len)]) (rest := []) rfl rfl (by show 2 * 0 + 0 ≤ _; decide) (hb hbytes d9) (⟨rfl, hA3, ba3, hne, l1, by rw [bs3]; simp, hp⟩)
  obtain ⟨rfl, B6, p6, f6⟩ := E6
  have c7 : Steps p.tables e below (s₁.setTop (entryFrame m #[.ref b, .int (Int32.ofNat o), .int (Int32.ofNat len)] 6)) (T6.setTop (mkF m 12 #[.val (.ref b), .val (.int (Int32.ofNat o)), .val (.int (Int32.ofNat len)), .val (.ref s.heap.size), .unset, .unset] [.int (Int32.ofNat len)])) := g6
  have c8 : Steps p.tables e below (s₁.setTop (entryFrame m #[.ref b, .int (Int32.ofNat o), .int (Int32.ofNat len)] 6)) (T6.setTop (mkF m 58 #[.val (.ref b), .val (.int (Int32.ofNat o)), .val (.int (Int32.ofNat len)), .val (.ref s.heap.size), .val (.int (Int32.ofNat len)), .unset] [.ref s.heap.size])) := c7.trans (by
    refine XS.istore X6.here hexec rfl (hb hbytes d12) rfl rfl ?_
    refine XS.iload X6.here hexec rfl (hb hbytes d14) rfl ?_
    refine XS.iloadN X6.here hexec rfl (hb hbytes d16) rfl ?_
    refine XS.icmpYes X6.here hexec rfl (pc0 := 17) rfl (hb hbytes d17) rfl (ii_eq_t rfl) (by decide) rfl ?_
    refine XS.aloadN X6.here hexec rfl (hb hbytes d57) rfl rfl ?_
    exact Steps.refl _)
  have X8 := X6.wide (L' := []) (cells' := 1) (slots' := len) (fun x hx hlt => by
    simp only [List.nil_append, copyLocs, List.mem_map, List.mem_range] at hx
    obtain ⟨i, -, rfl⟩ := hx
    exact absurd hlt (Nat.lt_irrefl _)) (Nat.le_refl _) (by omega)
  exact ⟨T6, some (.ref s.heap.size), _, _, _, X8, rfl, rfl, rfl, (fun h => by cases h), ⟨⟨rfl, B6, ba3.like (X3.warmed.alike.symm.trans X6.warmed.alike) p6.1 f6.1 f6.2.1 f6.2.2.1, f6.2.1.trans bv3, by rw [X6.warmed.alike.findClass, f6.1]; exact bf3, by rw [f6.2.2.1, bs3]; simp, fun j hj => by rw [f6.2.2.2 j, if_pos (by omega)]; rfl, kp3.put p6 (Nat.le_refl _)⟩, by rw [p6.2.2, bh3, hh0]; simp⟩, fun fs hl => c8.trans (X8.areturnOut hexec rfl hret rfl (hb hbytes d58) hl)⟩
end Cmp3
namespace CodL
def yN : MethodName := ⟨"java/lang/StringUTF16", "coderFromArrayLen", "([BI)B"⟩
abbrev yB : ByteArray := jdk_52_method_15_code
theorem d0 : decode yB 0 = .ok (.iload_n 1, 1) := by decide +kernel
theorem d1 : decode yB 1 = .ok (.aload_n 0, 1) := by decide +kernel
theorem d2 : decode yB 2 = .ok (.arraylength, 1) := by decide +kernel
theorem d3 : decode yB 3 = .ok (.isub, 1) := by decide +kernel
theorem d4 : decode yB 4 = .ok (.bipush 31, 2) := by decide +kernel
theorem d6 : decode yB 6 = .ok (.iushr, 1) := by decide +kernel
theorem d7 : decode yB 7 = .ok (.i2b, 1) := by decide +kernel
theorem d8 : decode yB 8 = .ok (.ireturn, 1) := by decide +kernel
def site : List Cond := []
def tab : Cond := tabOf yN yB 2 (some .byte) site
def P (d : Addr) (B : Cell) (args : Array Value) (s : State) : Prop := args = #[.ref d, .int (Int32.ofNat B.slots.size)] ∧ Arr .byte d B s
def E (r : Option Value) (s u : State) : Prop := XT.PureE (some (.int 0)) r s u
/-- an array as long as the number of chars: LATIN1 -/
theorem law (l : Launch) (d : Addr) (B : Cell) : Law l yN 2 2 0 0 yB 2 (some .byte) site (P d B) E [] 0 0 := by
  refine Law.of_walk (plainFor_of_name (by decide +kernel)) (by decide +kernel) (by decide +kernel) (by decide) (fun _ _ h => by rw [h.1]; rfl) (fun _ U U' hal hh h => ⟨h.1, h.2.mv hal hh⟩) (fun r U U' V V' h1 hal h2 h => XT.PureE.mv r U U' V V' h1 hal h2 h) ?_
  intro p e s m args below meth c s₁ X0 hexec hbytes hml hret hlk hnm hown hh0 W hP
  obtain ⟨rfl, hB⟩ := hP
  have hB0 := hB.mv X0.warmed.alike hh0
  have c1 : Steps p.tables e below (s₁.setTop (entryFrame m #[.ref d, .int (Int32.ofNat B.slots.size)] 2)) (s₁.setTop (mkF m 0 #[.val (.ref d), .val (.int (Int32.ofNat B.slots.size))] [])) := entry rfl
  have c2 : Steps p.tables e below (s₁.setTop (entryFrame m #[.ref d, .int (Int32.ofNat B.slots.size)] 2)) (s₁.setTop (mkF m 2 #[.val (.ref d), .val (.int (Int32.ofNat B.slots.size))] [.ref d, .int (Int32.ofNat B.slots.size)])) := c1.trans (by
    refine XS.iloadN X0.here hexec rfl (hb hbytes d0) rfl ?_
    refine XS.aloadN X0.here hexec rfl (hb hbytes d1) rfl rfl ?_
    exact Steps.refl _)
  have c3 : Steps p.tables e below (s₁.setTop (entryFrame m #[.ref d, .int (Int32.ofNat B.slots.size)] 2)) (s₁.setTop (mkF m 8 #[.val (.ref d), .val (.int (Int32.ofNat B.slots.size))] [.int (lo8 (ushr (Int32.ofNat B.slots.size - Int32.ofNat B.slots.size) 31))])) := c2.trans (by
    refine X0.alen hexec hB0 rfl rfl (hb hbytes d2) ?_
    refine XS.isub X0.here hexec rfl (hb hbytes d3) rfl ?_
    refine bipushV X0.here hexec rfl 31 (hb hbytes d4) (by decide) ?_
    refine iushr X0.here hexec rfl (hb hbytes d6) rfl ?_
    refine i2b X0.here hexec rfl (hb hbytes d7) rfl ?_
    exact Steps.refl _)
  have e0 : lo8 (ushr (Int32.ofNat B.slots.size - Int32.ofNat B.slots.size) 31) = 0 := by rw [Int32.sub_self]; decide
  rw [e0] at c3
  exact ⟨s₁, some (.int 0), _, _, _, X0, rfl, rfl, rfl, (fun h => by cases h), ⟨rfl, hh0⟩, fun fs hl => c3.trans (X0.ireturnOut hexec hret rfl (Or.inr (Or.inr (Or.inl rfl))) (hb hbytes d8) hl)⟩
end CodL
/-- the String at a is Latin-1 over a new byte[] (the heap's one new cell): the low bytes of the len chars of A from o on; every cell but a is kept -/
def Got (a : Addr) (D : Cell) (fV fC : Field) (A : Cell) (o len : Nat) (r : Option Value) (s u : State) : Prop := r = none ∧ ∃ D' V : Cell, Blank "java/lang/String" a D' u ∧ Same D D' [fV.slot, fC.slot] ∧ D'.slots[fV.slot]? = some (.ref s.heap.size) ∧ D'.slots[fC.slot]? = some (.int 0) ∧ Arr .byte s.heap.size V u ∧ V.vm = .none ∧ u.vm.findClass "[B" = some V.cls ∧ V.slots.size = len ∧ (∀ j, j < len → V.slots[j]? = some (.int (lo8 (cv A (o + j))))) ∧ (∀ (y : Addr) (c : Cell), y ≠ a → s.heap[y]? = some c → u.heap[y]? = some c) ∧ u.heap.size = s.heap.size + 1
theorem Got.mv {a : Addr} {D A : Cell} {fV fC : Field} {o len : Nat} : ∀ r (U U' V V' : State), U'.heap = U.heap → V.vm.Alike V'.vm → V'.heap = V.heap → Got a D fV fC A o len r U V → Got a D fV fC A o len r U' V' :=
  fun r U U' V V' h1 hal h2 ⟨e0, D', X, a1, a2, a3, a4, a5, a6, a7, a8, a9, a10, a11⟩ => ⟨e0, D', X, a1.mv hal h2, a2, by rw [h1]; exact a3, a4, by rw [h1]; exact a5.mv hal h2, a6, by rw [hal.findClass]; exact a7, a8, a9, by rw [h1, h2]; exact a10, by rw [h1, h2]; exact a11⟩
namespace New4
def yN : MethodName := ⟨"java/lang/String", "<init>", "([CIILjava/lang/Void;)V"⟩
abbrev yB : ByteArray := jdk_42_method_149_code
theorem d0 : decode yB 0 = .ok (.aload_n 0, 1) := by decide +kernel
theorem d1 : decode yB 1 = .ok (.invokespecial 1, 3) := by decide +kernel
theorem d4 : decode yB 4 = .ok (.iload_n 3, 1) := by decide +kernel
theorem d5 : decode yB 5 = .ok (.ifCond (.ne) 22, 3) := by decide +kernel
theorem d27 : decode yB 27 = .ok (.getstatic 38, 3) := by decide +kernel
theorem d30 : decode yB 30 = .ok (.ifCond (.eq) 28, 3) := by decide +kernel
theorem d33 : decode yB 33 = .ok (.aload_n 1, 1) := by decide +kernel
theorem d34 : decode yB 34 = .ok (.iload_n 2, 1) := by decide +kernel
theorem d35 : decode yB 35 = .ok (.iload_n 3, 1) := by decide +kernel
theorem d36 : decode yB 36 = .ok (.invokestatic 177, 3) := by decide +kernel
theorem d39 : decode yB 39 = .ok (.astore 5, 2) := by decide +kernel
theorem d41 : decode yB 41 = .ok (.aload_n 0, 1) := by decide +kernel
theorem d42 : decode yB 42 = .ok (.aload 5, 2) := by decide +kernel
theorem d44 : decode yB 44 = .ok (.iload_n 3, 1) := by decide +kernel
theorem d45 : decode yB 45 = .ok (.invokestatic 47, 3) := by decide +kernel
theorem d48 : decode yB 48 = .ok (.putfield 15, 3) := by decide +kernel
theorem d51 : decode yB 51 = .ok (.aload_n 0, 1) := by decide +kernel
theorem d52 : decode yB 52 = .ok (.aload 5, 2) := by decide +kernel
theorem d54 : decode yB 54 = .ok (.putfield 9, 3) := by decide +kernel
theorem d57 : decode yB 57 = .ok (.return_, 1) := by decide +kernel
def site : List Cond := [.fieldLink "java/lang/String" 38 "java/lang/String" "COMPACT_STRINGS" "Z", Cmp3.tab, CodL.tab, .laysFinal "java/lang/String" "java/lang/String" "value" "[B", .fieldLink "java/lang/String" 9 "java/lang/String" "value" "[B", .laysFinal "java/lang/String" "java/lang/String" "coder" "B", .fieldLink "java/lang/String" 15 "java/lang/String" "coder" "B"] ++ objW "java/lang/String" 1 ++ staticW "java/lang/String" 177 Cmp3.yN ++ staticW "java/lang/String" 47 CodL.yN
def tab : Cond := tabOf yN yB 6 none site
def P (a : Addr) (D : Cell) (fV fC : Field) (b : Addr) (A : Cell) (z : Int32) (o len : Nat) (args : Array Value) (s : State) : Prop := args = #[.ref a, .ref b, .int (Int32.ofNat o), .int (Int32.ofNat len), .null] ∧ Blank "java/lang/String" a D s ∧ Found "java/lang/String" "value" "[B" fV s ∧ Found "java/lang/String" "coder" "B" fC s ∧ Ch b A s ∧ StaticIs s "java/lang/String" "COMPACT_STRINGS" "Z" (.int z) ∧ ¬ z = 0 ∧ 0 < len ∧ o + len ≤ A.slots.size ∧ len ≤ 536870912 ∧ ∀ i, i < len → ¬ 255 < cv A (o + i)
def E (a : Addr) (D : Cell) (fV fC : Field) (A : Cell) (o len : Nat) (r : Option Value) (s u : State) : Prop := Got a D fV fC A o len r s u
/-- len > 0, no char of the range above 255: a Latin-1 String of their low bytes -/
theorem law (l : Launch) (a : Addr) (D : Cell) (fV fC : Field) (b : Addr) (A : Cell) (z : Int32) (o len : Nat) : Law l yN 5 4 2 35 yB 6 none site (P a D fV fC b A z o len) (E a D fV fC A o len) [⟨a, fC.slot⟩, ⟨a, fV.slot⟩] 1 len := by
  refine Law.of_walk (plainFor_of_name (by decide +kernel)) (by decide +kernel) (by decide +kernel) (by decide) (fun _ _ h => by rw [h.1]; rfl) (fun _ U U' hal hh h => ⟨h.1, h.2.1.mv hal hh, h.2.2.1.al hal, h.2.2.2.1.al hal, h.2.2.2.2.1.mv hal hh, h.2.2.2.2.2.1.there hal hh, h.2.2.2.2.2.2⟩) (fun r U U' V V' h1 hal h2 h => Got.mv r U U' V V' h1 hal h2 h) ?_
  intro p e s m args below meth c s₁ X0 hexec hbytes hml hret hlk hnm hown hh0 W hP
  obtain ⟨rfl, hB, f1, f2, hA, s1, hz, l0, l1, l2, hp⟩ := hP
  have a31 := hA.1.2.2.2
  have c1 : Steps p.tables e below (s₁.setTop (entryFrame m #[.ref a, .ref b, .int (Int32.ofNat o), .int (Int32.ofNat len), .null] 6)) (s₁.setTop (mkF m 0 #[.val (.ref a), .val (.ref b), .val (.int (Int32.ofNat o)), .val (.int (Int32.ofNat len)), .val .null, .unset] [])) := entry rfl
  have c2 : Steps p.tables e below (s₁.setTop (entryFrame m #[.ref a, .ref b, .int (Int32.ofNat o), .int (Int32.ofNat len), .null] 6)) (s₁.setTop (mkF m 1 #[.val (.ref a), .val (.ref b), .val (.int (Int32.ofNat o)), .val (.int (Int32.ofNat len)), .val .null, .unset] [.ref a])) := c1.trans (by
    refine XS.aloadN X0.here hexec rfl (hb hbytes d0) rfl rfl ?_
    exact Steps.refl _)
  obtain ⟨T3, X3, q3, st3⟩ := X0.oinit hexec hown (wks W (objW "java/lang/String" 1)) (g := (mkF m 1 #[.val (.ref a), .val (.ref b), .val (.int (Int32.ofNat o)), .val (.int (Int32.ofNat len)), .val .null, .unset] [.ref a])) rfl (by rw [hml]; rfl) (rest := []) rfl (hb hbytes d1) (W := 0) (by show 2 * 0 + 0 ≤ _; decide) (Nat.le_of_ble_eq_true rfl) (Nat.le_of_ble_eq_true rfl)
  have hh3 := q3.trans hh0
  have c4 : Steps p.tables e below (s₁.setTop (entryFrame m #[.ref a, .ref b, .int (Int32.ofNat o), .int (Int32.ofNat len), .null] 6)) (T3.setTop (mkF m 27 #[.val (.ref a), .val (.ref b), .val (.int (Int32.ofNat o)), .val (.int (Int32.ofNat len)), .val .null, .unset] [])) := (c2.trans (st3 _ (Steps.refl _))).trans (by
    refine XS.iloadN X3.here hexec rfl (hb hbytes d4) rfl ?_
    refine XS.ifYes X3.here hexec rfl (pc0 := 5) rfl (hb hbytes d5) rfl (i0_ne_t (nz32 (by omega) l0)) (by decide) rfl ?_
    exact Steps.refl _)
  obtain ⟨T5, X5, q5, st5⟩ := X3.sget hexec hown (wk W (.fieldLink "java/lang/String" 38 "java/lang/String" "COMPACT_STRINGS" "Z")) s1 (fun _ _ h => by rw [hh3]; exact h) (g := (mkF m 27 #[.val (.ref a), .val (.ref b), .val (.int (Int32.ofNat o)), .val (.int (Int32.ofNat len)), .val .null, .unset] [])) rfl (hb hbytes d27)
  have hh5 := q5.trans hh3
  have c6 : Steps p.tables e below (s₁.setTop (entryFrame m #[.ref a, .ref b, .int (Int32.ofNat o), .int (Int32.ofNat len), .null] 6)) (T5.setTop (mkF m 30 #[.val (.ref a), .val (.ref b), .val (.int (Int32.ofNat o)), .val (.int (Int32.ofNat len)), .val .null, .unset] [.int z])) := c4.trans (st5 _ (Steps.refl _))
  have c7 : Steps p.tables e below (s₁.setTop (entryFrame m #[.ref a, .ref b, .int (Int32.ofNat o), .int (Int32.ofNat len), .null] 6)) (T5.setTop (mkF m 36 #[.val (.ref a), .val (.ref b), .val (.int (Int32.ofNat o)), .val (.int (Int32.ofNat len)), .val .null, .unset] [.int (Int32.ofNat len), .int (Int32.ofNat o), .ref b])) := c6.trans (by
    refine XS.ifNo X5.here hexec rfl (hb hbytes d30) rfl (i0_eq_f hz) ?_
    refine XS.aloadN X5.here hexec rfl (hb hbytes d33) rfl rfl ?_
    refine XS.iloadN X5.here hexec rfl (hb hbytes d34) rfl ?_
    refine XS.iloadN X5.here hexec rfl (hb hbytes d35) rfl ?_
    exact Steps.refl _)
  obtain ⟨v8, T8, X8, E8, g8⟩ := X5.callS hexec (Cmp3.law l b A o len) hown (wks W (staticW "java/lang/String" 177 Cmp3.yN)) (wk W Cmp3.tab) (W := 0) (Nat.le_of_ble_eq_true rfl) (Nat.le_of_ble_eq_true rfl) (Nat.le_refl _) (by show 0 + len ≤ len; omega) (g := (mkF m 36 #[.val (.ref a), .val (.ref b), .val (.int (Int32.ofNat o)), .val (.int (Int32.ofNat len)), .val .null, .unset] [.int (Int32.ofNat len), .int (Int32.ofNat o), .ref b])) rfl (by rw [hml]; rfl) c7 (argsL := [.ref b, .int (Int32.ofNat o), .int (Int32.ofNat len)]) (rest := []) rfl rfl (by show 2 * 0 + 0 ≤ _; decide) (hb hbytes d36) (⟨rfl, hA.mv X5.warmed.alike hh5, l1, l2, hp⟩)
  obtain ⟨e8, z8⟩ := E8
  obtain ⟨rfl, N, n1, n2, n3, n4, n5, n6⟩ := NewArr.mv _ T5 s _ _ hh5.symm (Vm.Alike.refl _) rfl e8
  rw [hh5] at z8
  have hB1 := hB.keep X8.warmed.alike (n6 _ _ hB.1)
  have hne : s.heap.size ≠ a := (Nat.ne_of_lt (Array.getElem?_eq_some_iff.mp hB.1).1).symm
  have c9 : Steps p.tables e below (s₁.setTop (entryFrame m #[.ref a, .ref b, .int (Int32.ofNat o), .int (Int32.ofNat len), .null] 6)) (T8.setTop (mkF m 39 #[.val (.ref a), .val (.ref b), .val (.int (Int32.ofNat o)), .val (.int (Int32.ofNat len)), .val .null, .unset] [.ref s.heap.size])) := g8
  have c10 : Steps p.tables e below (s₁.setTop (entryFrame m #[.ref a, .ref b, .int (Int32.ofNat o), .int (Int32.ofNat len), .null] 6)) (T8.setTop (mkF m 45 #[.val (.ref a), .val (.ref b), .val (.int (Int32.ofNat o)), .val (.int (Int32.ofNat len)), .val .null, .val (.ref s.heap.size)] [.int (Int32.ofNat N.slots.size), .ref s.heap.size, .ref a])) := by
    have hc : Steps p.tables e below (s₁.setTop (entryFrame m #[.ref a, .ref b, .int (Int32.ofNat o), .int (Int32.ofNat len), .null] 6)) (T8.setTop (mkF m 45 #[.val (.ref a), .val (.ref b), .val (.int (Int32.ofNat o)), .val (.int (Int32.ofNat len)), .val .null, .val (.ref s.heap.size)] [.int (Int32.ofNat len), .ref s.heap.size, .ref a])) := c9.trans (by
      refine XS.astore X8.here hexec rfl (hb hbytes d39) rfl rfl rfl ?_
      refine XS.aloadN X8.here hexec rfl (hb hbytes d41) rfl rfl ?_
      refine XS.aload X8.here hexec rfl (hb hbytes d42) rfl rfl ?_
      refine XS.iloadN X8.here hexec rfl (hb hbytes d44) rfl ?_
      exact Steps.refl _)
    rw [n4]; exact hc
  obtain ⟨v11, T11, X11, E11, g11⟩ := X8.callS hexec (CodL.law l s.heap.size N) hown (wks W (staticW "java/lang/String" 47 CodL.yN)) (wk W CodL.tab) (W := 1) (Nat.le_of_ble_eq_true rfl) (Nat.le_of_ble_eq_true rfl) (Nat.le_refl _) (by show 0 + len + 0 ≤ len; omega) (g := (mkF m 45 #[.val (.ref a), .val (.ref b), .val (.int (Int32.ofNat o)), .val (.int (Int32.ofNat len)), .val .null, .val (.ref s.heap.size)] [.int (Int32.ofNat N.slots.size), .ref s.heap.size, .ref a])) rfl (by rw [hml]; rfl) c10 (argsL := [.ref s.heap.size, .int (Int32.ofNat N.slots.size)]) (rest := [.ref a]) rfl rfl (by show 2 * 0 + (1 + 0) ≤ _; decide) (hb hbytes d45) (⟨rfl, n1⟩)
  obtain ⟨rfl, q11⟩ := E11
  have hB11 := hB1.mv (X8.warmed.alike.symm.trans X11.warmed.alike) q11
  have c12 : Steps p.tables e below (s₁.setTop (entryFrame m #[.ref a, .ref b, .int (Int32.ofNat o), .int (Int32.ofNat len), .null] 6)) (T11.setTop (mkF m 48 #[.val (.ref a), .val (.ref b), .val (.int (Int32.ofNat o)), .val (.int (Int32.ofNat len)), .val .null, .val (.ref s.heap.size)] [.int 0, .ref a])) := g11
  obtain ⟨T13, X13, p13, bl13, sl13, st13⟩ := X11.finit hexec hown (wk W (.fieldLink "java/lang/String" 15 "java/lang/String" "coder" "B")) (Or.inr ⟨_, (wk W (.laysFinal "java/lang/String" "java/lang/String" "coder" "B"))⟩) (Or.inl ⟨rfl, hnm⟩) f2 (Or.inl rfl) hB11 (t := .byte) (by decide +kernel) rfl (g := (mkF m 48 #[.val (.ref a), .val (.ref b), .val (.int (Int32.ofNat o)), .val (.int (Int32.ofNat len)), .val .null, .val (.ref s.heap.size)] [.int 0, .ref a])) rfl (rest := []) rfl (hb hbytes d48)
  have c14 : Steps p.tables e below (s₁.setTop (entryFrame m #[.ref a, .ref b, .int (Int32.ofNat o), .int (Int32.ofNat len), .null] 6)) (T13.setTop (mkF m 54 #[.val (.ref a), .val (.ref b), .val (.int (Int32.ofNat o)), .val (.int (Int32.ofNat len)), .val .null, .val (.ref s.heap.size)] [.ref s.heap.size, .ref a])) := (c12.trans (st13 _ (Steps.refl _))).trans (by
    refine XS.aloadN X13.here hexec rfl (hb hbytes d51) rfl rfl ?_
    refine XS.aload X13.here hexec rfl (hb hbytes d52) rfl rfl ?_
    exact Steps.refl _)
  obtain ⟨T15, X15, p15, bl15, sl15, st15⟩ := X13.finit hexec hown (wk W (.fieldLink "java/lang/String" 9 "java/lang/String" "value" "[B")) (Or.inr ⟨_, (wk W (.laysFinal "java/lang/String" "java/lang/String" "value" "[B"))⟩) (Or.inl ⟨rfl, hnm⟩) f1 (Or.inl rfl) bl13 (t := (.array .byte)) (by decide +kernel) rfl (g := (mkF m 54 #[.val (.ref a), .val (.ref b), .val (.int (Int32.ofNat o)), .val (.int (Int32.ofNat len)), .val .null, .val (.ref s.heap.size)] [.ref s.heap.size, .ref a])) rfl (rest := []) rfl (hb hbytes d54)
  have c16 : Steps p.tables e below (s₁.setTop (entryFrame m #[.ref a, .ref b, .int (Int32.ofNat o), .int (Int32.ofNat len), .null] 6)) (T15.setTop (mkF m 57 #[.val (.ref a), .val (.ref b), .val (.int (Int32.ofNat o)), .val (.int (Int32.ofNat len)), .val .null, .val (.ref s.heap.size)] [])) := c14.trans (st15 _ (Steps.refl _))
  have ap := apart (Or.inr ⟨_, (wk W (.laysFinal "java/lang/String" "java/lang/String" "value" "[B"))⟩) (Or.inr ⟨_, (wk W (.laysFinal "java/lang/String" "java/lang/String" "coder" "B"))⟩) f1 f2 (t₁ := .array .byte) (t₂ := .byte) (by decide +kernel) (by decide +kernel) (by decide)
  have al := X8.warmed.alike.symm.trans X15.warmed.alike
  have n7 : T11.heap[s.heap.size]? = some N := by rw [q11]; exact n1.1
  exact ⟨T15, none, _, _, _, X15, by simp, rfl, by omega, (fun _ => rfl), ⟨rfl, _, N, bl15, ((Same.refl D _).set _ (by simp)).set _ (by simp), sl15, (Cell.slots_setSlot_ne _ ap).trans sl13, n1.keep al (p15.other hne (p13.other hne n7)), n2, by rw [al.findClass]; exact n3, n4, n5, fun y c h1 h2 => p15.other h1 (p13.other h1 (by rw [q11]; exact n6 y c h2)), by rw [p15.2.2, p13.2.2, q11]; exact z8⟩, fun fs hl => c16.trans (X15.returnOut hexec hret (hb hbytes d57) hl)⟩
end New4
namespace New1
def yN : MethodName := ⟨"java/lang/String", "<init>", "([C)V"⟩
abbrev yB : ByteArray := jdk_42_method_3_code
theorem d0 : decode yB 0 = .ok (.aload_n 0, 1) := by decide +kernel
theorem d1 : decode yB 1 = .ok (.aload_n 1, 1) := by decide +kernel
theorem d2 : decode yB 2 = .ok (.iconst 0, 1) := by decide +kernel
theorem d3 : decode yB 3 = .ok (.aload_n 1, 1) := by decide +kernel
theorem d4 : decode yB 4 = .ok (.arraylength, 1) := by decide +kernel
theorem d5 : decode yB 5 = .ok (.aconst_null, 1) := by decide +kernel
theorem d6 : decode yB 6 = .ok (.invokespecial 27, 3) := by decide +kernel
theorem d9 : decode yB 9 = .ok (.return_, 1) := by decide +kernel
def site : List Cond := [New4.tab] ++ initW "java/lang/String" 27 New4.yN
def tab : Cond := tabOf yN yB 2 none site
def P (a : Addr) (D : Cell) (fV fC : Field) (b : Addr) (A : Cell) (z : Int32) (args : Array Value) (s : State) : Prop := args = #[.ref a, .ref b] ∧ Blank "java/lang/String" a D s ∧ Found "java/lang/String" "value" "[B" fV s ∧ Found "java/lang/String" "coder" "B" fC s ∧ Ch b A s ∧ StaticIs s "java/lang/String" "COMPACT_STRINGS" "Z" (.int z) ∧ ¬ z = 0 ∧ 0 < A.slots.size ∧ A.slots.size ≤ 536870912 ∧ ∀ i, i < A.slots.size → ¬ 255 < cv A i
def E (a : Addr) (D : Cell) (fV fC : Field) (A : Cell) (r : Option Value) (s u : State) : Prop := Got a D fV fC A 0 A.slots.size r s u
/-- new String(chars), not empty, no char above 255: a Latin-1 String of their low bytes -/
theorem law (l : Launch) (a : Addr) (D : Cell) (fV fC : Field) (b : Addr) (A : Cell) (z : Int32) : Law l yN 2 1 3 52 yB 2 none site (P a D fV fC b A z) (E a D fV fC A) [⟨a, fC.slot⟩, ⟨a, fV.slot⟩] 1 A.slots.size := by
  refine Law.of_walk (plainFor_of_name (by decide +kernel)) (by decide +kernel) (by decide +kernel) (by decide) (fun _ _ h => by rw [h.1]; rfl) (fun _ U U' hal hh h => ⟨h.1, h.2.1.mv hal hh, h.2.2.1.al hal, h.2.2.2.1.al hal, h.2.2.2.2.1.mv hal hh, h.2.2.2.2.2.1.there hal hh, h.2.2.2.2.2.2⟩) (fun r U U' V V' h1 hal h2 h => Got.mv r U U' V V' h1 hal h2 h) ?_
  intro p e s m args below meth c s₁ X0 hexec hbytes hml hret hlk hnm hown hh0 W hP
  obtain ⟨rfl, hB, f1, f2, hA, s1, hz, l0, l2, hp⟩ := hP
  have c1 : Steps p.tables e below (s₁.setTop (entryFrame m #[.ref a, .ref b] 2)) (s₁.setTop (mkF m 0 #[.val (.ref a), .val (.ref b)] [])) := entry rfl
  have c2 : Steps p.tables e below (s₁.setTop (entryFrame m #[.ref a, .ref b] 2)) (s₁.setTop (mkF m 6 #[.val (.ref a), .val (.ref b)] [.null, .int (Int32.ofNat A.slots.size), .int 0, .ref b, .ref a])) := c1.trans (by
    refine XS.aloadN X0.here hexec rfl (hb hbytes d0) rfl rfl ?_
    refine XS.aloadN X0.here hexec rfl (hb hbytes d1) rfl rfl ?_
    refine iconstV X0.here hexec rfl 0 (hb hbytes d2) (by decide) ?_
    refine XS.aloadN X0.here hexec rfl (hb hbytes d3) rfl rfl ?_
    refine X0.alen hexec (hA.1.mv X0.warmed.alike hh0) rfl rfl (hb hbytes d4) ?_
    refine XS.aconstNull X0.here hexec rfl (hb hbytes d5) ?_
    exact Steps.refl _)
  obtain ⟨v3, T3, X3, E3, g3⟩ := X0.callN hexec (New4.law l a D fV fC b A z 0 A.slots.size) rfl hown (wks W (initW "java/lang/String" 27 New4.yN)) (W New4.tab (by simp only [site, List.mem_cons, List.mem_append, true_or, or_true])) (W := 0) (Nat.le_of_ble_eq_true rfl) (Nat.le_of_ble_eq_true rfl) (Nat.le_refl _) (by show 0 + A.slots.size ≤ A.slots.size; omega) (g := (mkF m 6 #[.val (.ref a), .val (.ref b)] [.null, .int (Int32.ofNat A.slots.size), .int (Int32.ofNat 0), .ref b, .ref a])) rfl (by rw [hml]; rfl) c2 (argsL := [.ref b, .int (Int32.ofNat 0), .int (Int32.ofNat A.slots.size), .null]) (rest := []) rfl rfl (by show 2 * 0 + 0 ≤ _; decide) (hb hbytes d6) (⟨rfl, hB.mv X0.warmed.alike hh0, f1.al X0.warmed.alike, f2.al X0.warmed.alike, hA.mv X0.warmed.alike hh0, s1.there X0.warmed.alike hh0, hz, l0, by omega, l2, fun i hi => by rw [Nat.zero_add]; exact hp i hi⟩)
  have e0 := Got.mv _ s₁ s _ _ hh0.symm (Vm.Alike.refl _) rfl E3
  obtain rfl := e0.1
  have c4 : Steps p.tables e below (s₁.setTop (entryFrame m #[.ref a, .ref b] 2)) (T3.setTop (mkF m 9 #[.val (.ref a), .val (.ref b)] [])) := g3
  exact ⟨T3, none, _, _, _, X3, by simp, rfl, by omega, (fun _ => rfl), e0, fun fs hl => c4.trans (X3.returnOut hexec hret (hb hbytes d9) hl)⟩
theorem pays {l : Launch} {R : Room} {p : Program} {e : Env} {below : List Frame} {s : State} {sargs : Array Value} {len W : Nat} (a : Addr) (D : Cell) (fV fC : Field) (b : Addr) (A : Cell) (z : Int32) (htab : tab.before sargs s = true) (hfr : 4 ≤ R.frames) (hlo : W + 65 ≤ R.locals) :
    Back l R p e below s sargs yN len W (fun A₁ a₁ => A₁.cells + 1 ≤ R.cells ∧ A₁.slots + A.slots.size ≤ R.slots ∧ P a D fV fC b A z a₁ A₁.U) (fun A₁ _ v₁ B₁ => E a D fV fC A v₁ A₁.U B₁.U ∧ B₁.locs = A₁.locs ++ [⟨a, fC.slot⟩, ⟨a, fV.slot⟩] ∧ B₁.cells = A₁.cells + 1 ∧ B₁.slots = A₁.slots + A.slots.size) :=
  (law l a D fV fC b A z).pays htab hfr (by omega)
end New1
/-- the byte, read back as charAt reads it, is the char -/
theorem lo8_mask {x : Int32} (h0 : ¬ x < 0) (h1 : ¬ 255 < x) : lo8 x &&& 255 = x := by
  have t : ∀ k : Fin 256, lo8 (Int32.ofNat k.val) &&& 255 = Int32.ofNat k.val := by decide +kernel
  rw [Int32.lt_iff_toInt_lt] at h0 h1
  have e0 : (0 : Int32).toInt = 0 := rfl
  have e1 : (255 : Int32).toInt = 255 := rfl
  obtain ⟨k, hk⟩ : ∃ k : Nat, x.toInt = k := ⟨x.toInt.toNat, by omega⟩
  have hx : x = Int32.ofNat k := Int32.toInt_inj.mp (by rw [hk, Int32.toInt_ofNat_small (by omega)])
  rw [hx]
  exact t ⟨k, by omega⟩
end StrChars
namespace StrChars.Road
open Jvm Sem ClassFile Op Lib Jvm.Stand Jvm.Free Jvm.Free.XT
open Jvm.Lib.Cold (StaticIs)
abbrev ST : String := "java/lang/String"
/-- every table word that New1's law asks, flat -/
abbrev words : List Jvm.Cond := [.code New1.yN New1.yB 2 none, .initialized ST, .methodLink ST 27 New4.yN, .instanceMethod New4.yN,
  .code New4.yN New4.yB 6 none, .fieldLink ST 38 ST "COMPACT_STRINGS" "Z", .laysFinal ST ST "value" "[B", .fieldLink ST 9 ST "value" "[B", .laysFinal ST ST "coder" "B", .fieldLink ST 15 ST "coder" "B",
  .methodLink ST 1 Lib.objectInit, .instanceMethod Lib.objectInit, .code Lib.objectInit ⟨#[0xb1]⟩ 1 none, .methodLink ST 177 Cmp3.yN, .static Cmp3.yN, .methodLink ST 47 CodL.yN, .static CodL.yN,
  .code Cmp3.yN Cmp3.yB 6 (some (.array .byte)), .initialized U16, .arrayClass .byte, .methodLink U16 115 Cmp5.yN, .static Cmp5.yN, .code Cmp5.yN Cmp5.yB 7 (some .int), .code CodL.yN CodL.yB 2 (some .byte)]
theorem tab_of {a : Array Value} {s : State} (h : ∀ w ∈ words, w.before a s = true) : New1.tab.before a s = true := by
  have h5 : Cmp5.tab.before a s = true := unparts (wk h (.code Cmp5.yN Cmp5.yB 7 (some .int))) (wks h (.initialized Cmp5.yN.cls :: Cmp5.site))
  have hc : CodL.tab.before a s = true := unparts (wk h (.code CodL.yN CodL.yB 2 (some .byte))) (wks h (.initialized CodL.yN.cls :: CodL.site))
  have q5 : ∀ w ∈ Cmp5.tab :: words, w.before a s = true := fun w hw => (List.mem_cons.mp hw).elim (fun e => e ▸ h5) (h w)
  have h3 : Cmp3.tab.before a s = true := unparts (wk q5 (.code Cmp3.yN Cmp3.yB 6 (some (.array .byte)))) (wks q5 (.initialized Cmp3.yN.cls :: Cmp3.site))
  have q3 : ∀ w ∈ Cmp3.tab :: CodL.tab :: words, w.before a s = true := fun w hw => (List.mem_cons.mp hw).elim (fun e => e ▸ h3) fun hw => (List.mem_cons.mp hw).elim (fun e => e ▸ hc) (h w)
  have h4 : New4.tab.before a s = true := unparts (wk q3 (.code New4.yN New4.yB 6 none)) (wks q3 (.initialized New4.yN.cls :: New4.site))
  have q4 : ∀ w ∈ New4.tab :: words, w.before a s = true := fun w hw => (List.mem_cons.mp hw).elim (fun e => e ▸ h4) (h w)
  exact unparts (wk q4 (.code New1.yN New1.yB 2 none)) (wks q4 (.initialized New1.yN.cls :: New1.site))
/-- the words ride from the start Z to the walk's own state -/
theorem moved {Z s : State} {a0 args : Array Value} (hZ : Z.Warmed39 s.vm) (hw : ∀ d ∈ words, d.before a0 Z = true) : ∀ d ∈ words, d.before args s = true := fun d hd => by
  have q := hw d hd
  have t : ∀ d ∈ words, d = .arrayClass .byte ∨ (d.onTables && d.keepsFace) = true := by decide +kernel
  rcases t d hd with rfl | t
  · exact RoadKit.mvA hZ q
  · exact RoadKit.mv hZ q t
/-- WHAT COMES BACK, over the tables of the start Z: h the heap at the call, h' behind it -/
def Q (Z : State) (x : Addr) (A : Cell) (h : Heap) (v : Option Value) (h' : Heap) (L : List Loc) : Prop := v = none ∧ (∀ y ∈ L, y.base = x) ∧ RoadKit.Keep h h' [x] ∧ h'.size = h.size + 1 ∧ RoadKit.Exa Z h' x ST ∧ RoadKit.Fld Z h' x ST "value" "[B" (.ref h.size) ∧ RoadKit.Fld Z h' x ST "coder" "B" (.int 0) ∧
  (∃ V : Cell, RoadKit.Arr Z h' h.size V .byte ∧ V.vm = .none ∧ Z.vm.findClass "[B" = some V.cls ∧ V.slots.size = A.slots.size ∧ ∀ j, j < A.slots.size → V.slots[j]? = some (.int (lo8 (cv A j)))) ∧
  ∀ (O n d : String) (w : Value), RoadKit.Fld Z h x O n d w → RoadKit.slotOf Z O n d ≠ RoadKit.slotOf Z ST "value" "[B" → RoadKit.slotOf Z O n d ≠ RoadKit.slotOf Z ST "coder" "B" → RoadKit.Fld Z h' x O n d w
/-- **new String(chars) AT A CALL, IN THE ROAD'S FORM**: for specialBack behind newO: x the fresh String, b the char[] with the cell A -/
theorem back {p : Program} {l : Launch} {e : Env} {R : Room} {s : State} {args : Array Value} {below : List Frame} {len W : Nat} {Z : State} {a0 : Array Value} {h : Heap} (hZ : Z.Warmed39 s.vm) (hw : ∀ d ∈ words, d.before a0 Z = true) {kI : Nat} (wi : (Jvm.Cond.instantiable ST kI).before a0 Z = true)
    {x b : Addr} {A : Cell} {z : Int32} {v0 c0 : Value} (E : RoadKit.Exa Z h x ST) (V : RoadKit.Fld Z h x ST "value" "[B" v0) (C : RoadKit.Fld Z h x ST "coder" "B" c0) (K : RoadKit.Arr Z h b A .char) (hty : Typed .char A) (S : RoadKit.Sta Z h ST "COMPACT_STRINGS" "Z" (.int z)) (hz : ¬ z = 0)
    (l0 : 0 < A.slots.size) (l2 : A.slots.size ≤ 536870912) (hp : ∀ i, i < A.slots.size → ¬ 255 < cv A i) (hfr : 4 ≤ R.frames) (hlo : W + 65 ≤ R.locals) :
    Back l R p e below s args New1.yN len W (fun P a => a = #[.ref x, .ref b] ∧ P.U.heap = h ∧ P.cells + 1 ≤ R.cells ∧ P.slots + A.slots.size ≤ R.slots)
      (fun P _ v B => ∃ L, Q Z x A h v B.U.heap L ∧ B.locs = P.locs ++ L ∧ B.cells = P.cells + 1 ∧ B.slots = P.slots + A.slots.size) := by
  intro m meth c P g ig mk a X hg hsize hdg hW hn hp'
  obtain ⟨rfl, rfl, r1, r2⟩ := hp'
  have al : Z.vm.Alike P.U.vm := hZ.alike.trans X.warmed.alike
  obtain ⟨D, cfV, kV, iV, fV, hD, gV, stV, knV, obV, asV, slV⟩ := id V
  obtain ⟨D', cfC, kC, iC, fC, hD', gC, stC, -, -, asC, slC⟩ := id C
  cases hD.symm.trans hD'
  obtain ⟨D2, kD, e1, e2, e3, e4, e5⟩ := id E
  cases hD.symm.trans e1
  obtain ⟨c2, k2, i1, i2, i3, -⟩ := Cond.instantiable_spec wi
  cases e2.symm.trans i1
  cases e3.symm.trans i2
  obtain ⟨kU, u1, u2⟩ := al.2.2 _ _ e3
  have hB : Blank ST x D P.U := ⟨hD, ⟨knV, fun q hq => by rw [hq] at obV; cases obV⟩, by rw [al.findClass]; exact e2, kU, u1, by rw [u2]; exact i3, by rw [u2]; exact e5 i3⟩
  have F1 : Found ST "value" "[B" fV P.U := ⟨SBG.found_only al ⟨cfV, kV, iV, gV⟩, stV⟩
  have F2 : Found ST "coder" "B" fC P.U := ⟨SBG.found_only al ⟨cfC, kC, iC, gC⟩, stC⟩
  have hA : Ch b A P.U := ⟨⟨K.1, State.isArrayOf_alike al K.2.1, K.2.2, by omega⟩, hty⟩
  have hS : StaticIs P.U ST "COMPACT_STRINGS" "Z" (.int z) := by
    obtain ⟨cfS, iS, kS, fS, st, cS, t1, t2, t3, t4, t5, t6, t7⟩ := S
    exact StaticIs.there (s := { Z with heap := P.U.heap }) ⟨cfS, iS, kS, fS, st, cS, t1, t2, t3, t4, t5, (fun q => by rw [q] at t6; cases t6), t7⟩ al rfl
  obtain ⟨v, B, X', ⟨⟨hv, E', V', q1, q2, q3, q4, q5, q6, q7, q8, q9, q10, q11⟩, hl, hc, hs⟩, st⟩ := New1.pays x D fV fC b A z (tab_of (moved hZ hw)) hfr hlo m meth c P g ig mk _ X hg hsize hdg hW hn ⟨r1, r2, rfl, hB, F1, F2, hA, hS, hz, l0, l2, hp⟩
  have al' : Z.vm.Alike B.U.vm := hZ.alike.trans X'.warmed.alike
  have hsz : E'.slots.size = D.slots.size := by
    obtain ⟨-, -, -, kB, w1, w2, w3⟩ := q1
    obtain ⟨kB', y1, y2⟩ := al'.2.2 _ _ e3
    rw [q2.2.1] at w1
    cases w1.symm.trans y1
    rw [w3, e5 i3, y2]
  refine ⟨v, B, X', ⟨_, ⟨hv, ?_, ⟨by omega, fun y cy hy hn' => q10 y cy (by simpa using hn') hy, fun y cy hy => ?_⟩, q11, ⟨E', _, q1.1, by rw [q2.2.1]; exact e2, by rw [q2.2.1]; exact e3, by rw [q2.1]; exact obV, fun _ => by rw [hsz]; exact e5 i3⟩,
    ⟨E', cfV, kV, iV, fV, q1.1, gV, stV, by rw [q2.1]; exact knV, by rw [q2.1]; exact obV, by rw [q2.2.1]; exact asV, q3⟩, ⟨E', cfC, kC, iC, fC, q1.1, gC, stC, by rw [q2.1]; exact knV, by rw [q2.1]; exact obV, by rw [q2.2.1]; exact asC, q4⟩,
    ⟨V', ⟨q5.1, State.isArrayOf_alike al'.symm q5.2.1, q5.2.2.1⟩, q6, by rw [← al'.findClass]; exact q7, q8, fun j hj => by have := q9 j hj; rwa [Nat.zero_add] at this⟩, fun O n d w F n1 n2 => ?_⟩, hl, hc, hs⟩, st⟩
  · intro y hy
    simp only [List.mem_cons, List.not_mem_nil, or_false] at hy
    rcases hy with rfl | rfl <;> rfl
  · by_cases q : y = x
    · subst q
      cases hD.symm.trans hy
      exact ⟨E', q1.1, q2.2.1, q2.1, hsz⟩
    · exact ⟨cy, q10 y cy q hy, rfl, rfl, rfl⟩
  · obtain ⟨D3, cf, k, i, f, g1, g2, g3, g4, g5, g6, g7⟩ := F
    cases hD.symm.trans g1
    simp only [RoadKit.slotOf, g2, gV, gC, Option.map_some, Option.getD_some] at n1 n2
    exact ⟨E', cf, k, i, f, q1.1, g2, g3, by rw [q2.1]; exact g4, by rw [q2.1]; exact g5, by rw [q2.2.1]; exact g6, by rw [q2.2.2 f.slot (by simp [n1, n2])]; exact g7⟩
end StrChars.Road
namespace StrChars.Road
open Jvm Sem ClassFile Op Lib Jvm.Stand Jvm.Free Jvm.Free.XT
/-- WHAT COMES BACK, the byte[] as a list of values -/
def QA (Z : State) (x : Addr) (zn : Int32) (cs : List Int32) (h : Heap) (v : Option Value) (h' : Heap) (L : List Loc) : Prop := v = none ∧ (∀ y ∈ L, y.base = x) ∧ RoadKit.Keep h h' [x] ∧ h'.size = h.size + 1 ∧ RoadKit.Exa Z h' x ST ∧ RoadKit.Fld Z h' x ST "value" "[B" (.ref h.size) ∧ RoadKit.Fld Z h' x ST "coder" "B" (.int 0) ∧
  (∃ kb, Z.vm.findClass "[B" = some kb ∧ RoadKit.Arv Z h' h.size kb .byte zn (cs.map fun c => .int (lo8 c)) (.int 0)) ∧
  ∀ (O n d : String) (w : Value), RoadKit.Fld Z h x O n d w → RoadKit.slotOf Z O n d ≠ RoadKit.slotOf Z ST "value" "[B" → RoadKit.slotOf Z O n d ≠ RoadKit.slotOf Z ST "coder" "B" → RoadKit.Fld Z h' x O n d w
/-- **new String(chars) AT A CALL, THE ARRAYS AS LISTS**: the char[] at b holds cs, not empty, no char above 255 -/
theorem backArv {p : Program} {l : Launch} {e : Env} {R : Room} {s : State} {args : Array Value} {below : List Frame} {len W : Nat} {Z : State} {a0 : Array Value} {h : Heap} (hZ : Z.Warmed39 s.vm) (hw : ∀ d ∈ words, d.before a0 Z = true) {kI : Nat} (wi : (Jvm.Cond.instantiable ST kI).before a0 Z = true)
    {x b : Addr} {k : ClassId} {zn z : Int32} {cs : List Int32} {dv v0 c0 : Value} (E : RoadKit.Exa Z h x ST) (V : RoadKit.Fld Z h x ST "value" "[B" v0) (C : RoadKit.Fld Z h x ST "coder" "B" c0) (K : RoadKit.Arv Z h b k .char zn (cs.map Value.int) dv) (S : RoadKit.Sta Z h ST "COMPACT_STRINGS" "Z" (.int z)) (hz : ¬ z = 0)
    (hlen : zn.toNatClampNeg = cs.length) (h0 : 0 < cs.length) (hbig : cs.length ≤ 536870912) (hall : ∀ c ∈ cs, ¬ 255 < c) (hfr : 4 ≤ R.frames) (hlo : W + 65 ≤ R.locals) :
    Back l R p e below s args New1.yN len W (fun P a => a = #[.ref x, .ref b] ∧ P.U.heap = h ∧ P.cells + 1 ≤ R.cells ∧ P.slots + cs.length ≤ R.slots)
      (fun P _ v B => ∃ L, QA Z x zn cs h v B.U.heap L ∧ B.locs = P.locs ++ L ∧ B.cells = P.cells + 1 ∧ B.slots = P.slots + cs.length) := by
  obtain ⟨A, K1, K2, K3, K4, K5, K6⟩ := K
  have e : A.slots.size = cs.length := K3.trans hlen
  have hat : ∀ (i : Nat) (hi : i < cs.length), A.slots[i]? = some (.int cs[i]) := fun i hi => by rw [K5 i (by omega)]; simp [List.getD_eq_getElem?_getD, hi]
  have hcv : ∀ (i : Nat) (hi : i < cs.length), cv A i = cs[i] := fun i hi => by unfold cv; rw [hat i hi]
  have hty : Typed .char A := fun i v hv => by
    have hi : i < A.slots.size := (Array.getElem?_eq_some_iff.mp hv).1
    have q := K5 i hi
    rw [hv] at q
    rw [Option.some.inj q]
    exact K6 i hi
  refine Back.mono (back hZ hw wi E V C K1 hty S hz (by omega) (by omega) (fun i hi => by rw [hcv i (by omega)]; exact hall _ (List.getElem_mem _)) hfr hlo) (fun P a hp => ⟨hp.1, hp.2.1, hp.2.2.1, by rw [e]; exact hp.2.2.2⟩) (fun P a v B hp hq => ?_)
  obtain ⟨L, ⟨q1, q2, q3, q4, q5, q6, q7, ⟨V', v1, v2, v3, v4, v5⟩, q9⟩, hl, hc, hs⟩ := hq
  refine ⟨L, ⟨q1, q2, q3, q4, q5, q6, q7, ⟨V'.cls, v3, V', v1, rfl, by rw [v4, e, hlen], K4, fun i hi => ?_, fun i hi => ?_⟩, q9⟩, hl, hc, by rw [hs, e]⟩
  · have hi' : i < cs.length := by omega
    rw [v5 i (by omega), hcv i hi']; simp [List.getD_eq_getElem?_getD, hi']
  · have hi' : i < cs.length := by omega
    simp only [List.getD_eq_getElem?_getD, List.getElem?_map, List.getElem?_eq_getElem hi', Option.map_some, Option.getD_some]
    exact fits_lo8 _
end StrChars.Road
namespace StrChars.Road
open Jvm Sem ClassFile Op Lib Jvm.Stand Jvm.Free Jvm.Free.XT
/-- WHAT COMES BACK, in the writer's own shape -/
def QV (Z : State) (x : Addr) (N : Int32) (bs : List Int32) (h : Heap) (n0 : Nat) (v : Option Value) (h' : Heap) (L : List Loc) : Prop := v = none ∧ RoadKit.Fr n0 L ∧ RoadKit.Keep h h' [x] ∧ RoadKit.Exa Z h' x ST ∧ RoadKit.Fld Z h' x ST "coder" "B" (.int 0) ∧
  ∃ (t : Addr) (kb : ClassId), n0 ≤ t ∧ h.size ≤ t ∧ ¬ t = x ∧ RoadKit.Fld Z h' x ST "value" "[B" (.ref t) ∧ RoadKit.Arv Z h' t kb .byte N (bs.map Value.int) (.int 0)
/-- **new String(chars) AT A CALL, FOR THE WRITER**: a char[] of n known ints, each 0 to 255 -/
theorem backV {p : Program} {l : Launch} {e : Env} {R : Room} {s : State} {args : Array Value} {below : List Frame} {len W : Nat} {Z : State} {a0 : Array Value} {h : Heap} (hZ : Z.Warmed39 s.vm) (hw : ∀ d ∈ words, d.before a0 Z = true) {kI : Nat} (wi : (Jvm.Cond.instantiable ST kI).before a0 Z = true)
    {x b : Addr} {kC : ClassId} {cs bs : List Int32} {d v0 c0 : Value} {z N : Int32} {n n0 : Nat} (hx0 : n0 ≤ x) (hh0 : n0 ≤ h.size) (E : RoadKit.Exa Z h x ST) (V : RoadKit.Fld Z h x ST "value" "[B" v0) (C : RoadKit.Fld Z h x ST "coder" "B" c0) (K : RoadKit.Arv Z h b kC .char N (cs.map Value.int) d) (S : RoadKit.Sta Z h ST "COMPACT_STRINGS" "Z" (.int z)) (hz : ¬ z = 0)
    (hn : cs.length = n) (hN : N = Int32.ofNat n) (l0 : 0 < n) (l2 : n ≤ 4000) (hp : ∀ c ∈ cs, ¬ c < 0 ∧ ¬ (255 : Int32) < c) (hb : bs = cs.map (fun c => c.toInt8.toInt32)) (hfr : 4 ≤ R.frames) (hlo : W + 65 ≤ R.locals) :
    Back l R p e below s args (⟨"java/lang/String", "<init>", "([C)V"⟩ : MethodName) len W (fun P a => a = #[.ref x, .ref b] ∧ P.U.heap = h ∧ P.cells + 1 ≤ R.cells ∧ P.slots + n ≤ R.slots)
      (fun P _ v B => ∃ L, QV Z x N bs h n0 v B.U.heap L ∧ B.locs = P.locs ++ L ∧ B.cells = P.cells + 1 ∧ B.slots = P.slots + n) := by
  subst hn hN hb
  refine Back.mono (backArv hZ hw wi E V C K S hz (n32 (by omega)) l0 (by omega) (fun c hc => (hp c hc).2) hfr hlo) (fun P a hp => hp) (fun P a v B hp hq => ?_)
  obtain ⟨L, ⟨q1, q2, q3, q4, q5, q6, q7, ⟨kb, v1, v2⟩, q9⟩, hl, hc, hs⟩ := hq
  exact ⟨L, ⟨q1, fun y hy => by rw [q2 y hy]; exact hx0, q3, q5, q7, h.size, kb, hh0, Nat.le_refl _, Nat.ne_of_gt E.lt, q6, by rw [List.map_map]; exact v2⟩, hl, hc, hs⟩
end StrChars.Road
namespace StrChars
open Jvm Sem ClassFile Op Lib Jvm.Stand Jvm.Free.XT Jvm.Free.ALB Jvm.Free.JM Jvm.Free
open Jvm.Lib.Cold (StaticIs)
def hi8 (x : Int32) : Int32 := lo8 (x >>> ((8 : Int32) &&& 31))
/-- what StringUTF16.getChar makes of two bytes -/
def pairCh (u v : Int32) : Int32 := (((u &&& 255) <<< ((0 : Int32) &&& 31)) ||| ((v &&& 255) <<< ((8 : Int32) &&& 31))).toUInt32.toUInt16.toUInt32.toInt32
theorem shr0 (c : Int32) : c >>> ((0 : Int32) &&& 31) = c := by
  have e : ((0 : Int32) &&& 31) = 0 := by decide
  rw [e]
  apply Int32.toBitVec_inj.mp
  rw [Int32.toBitVec_shiftRight]
  have e1 : ((0 : Int32).toBitVec.smod 32) = 0#32 := by decide
  rw [e1, BitVec.sshiftRight_eq']
  exact BitVec.sshiftRight_zero
theorem lo8_and (x : Int32) : (lo8 x &&& 255).toBitVec.toNat = x.toBitVec.toNat % 256 := by
  have h : (lo8 x).toBitVec = (x.toBitVec.signExtend 8).signExtend 32 := by rw [lo8, Int8.toBitVec_toInt32, Int32.toBitVec_toInt8]
  rw [Int32.toBitVec_and, BitVec.toNat_and, h]
  have e : ((x.toBitVec.signExtend 8).signExtend 32).toNat % 256 = x.toBitVec.toNat % 256 := by
    rw [BitVec.toNat_signExtend]
    have hlt := x.toBitVec.isLt
    simp only [BitVec.toNat_setWidth, BitVec.toNat_signExtend]
    split <;> split <;> omega
  rw [← e]
  exact Nat.and_two_pow_sub_one_eq_mod _ 8
theorem pair_says {c : Int32} (h0 : ¬ c < 0) (h1 : ¬ 65535 < c) : pairCh (lo8 c) (hi8 c) = c := by
  rw [Int32.lt_iff_toInt_lt] at h0 h1
  have e0 : (0 : Int32).toInt = 0 := rfl
  have e1 : (65535 : Int32).toInt = 65535 := rfl
  have hc : c.toInt = c.toBitVec.toNat := by
    have := c.toBitVec.isLt
    have e : c.toInt = c.toBitVec.toInt := rfl
    rw [e] at h0 h1
    rw [e]
    rw [BitVec.toInt_eq_toNat_cond] at h0 h1 ⊢
    split at h0 <;> split <;> omega
  have hn : c.toBitVec.toNat < 65536 := by omega
  have a1 := lo8_and c
  have a2 : (hi8 c &&& 255).toBitVec.toNat = c.toBitVec.toNat / 256 := by
    rw [hi8, lo8_and]
    have e : ((8 : Int32) &&& 31) = 8 := by decide
    rw [e, Int32.toBitVec_shiftRight]
    have e2 : ((8 : Int32).toBitVec.smod 32) = 8#32 := by decide
    rw [e2, BitVec.sshiftRight_eq', BitVec.toNat_sshiftRight_of_msb_false (by rw [BitVec.msb_eq_false_iff_two_mul_lt]; omega)]
    show c.toBitVec.toNat >>> 8 % 256 = _
    rw [Nat.shiftRight_eq_div_pow]
    omega
  unfold pairCh
  apply Int32.toBitVec_inj.mp
  apply BitVec.eq_of_toNat_eq
  have f0 : ((0 : Int32) &&& 31) = 0 := by decide
  have f8 : ((8 : Int32) &&& 31) = 8 := by decide
  rw [f0, f8]
  have g : (((lo8 c &&& 255) <<< (0 : Int32)) ||| ((hi8 c &&& 255) <<< (8 : Int32))).toBitVec.toNat = c.toBitVec.toNat := by
    rw [Int32.toBitVec_or, Int32.toBitVec_shiftLeft, Int32.toBitVec_shiftLeft]
    have s0 : ((0 : Int32).toBitVec.smod 32) = 0#32 := by decide
    have s8 : ((8 : Int32).toBitVec.smod 32) = 8#32 := by decide
    rw [s0, s8, BitVec.toNat_or]
    simp only [BitVec.shiftLeft_eq', BitVec.toNat_shiftLeft, a1, a2]
    show (c.toBitVec.toNat % 256) <<< 0 % 2 ^ 32 ||| (c.toBitVec.toNat / 256) <<< 8 % 2 ^ 32 = _
    rw [Nat.shiftLeft_zero, Nat.mod_eq_of_lt (show c.toBitVec.toNat % 256 < 2 ^ 32 by omega), Nat.mod_eq_of_lt (show (c.toBitVec.toNat / 256) <<< 8 < 2 ^ 32 by rw [Nat.shiftLeft_eq]; omega), Nat.or_comm, ← Nat.shiftLeft_add_eq_or_of_lt (by omega), Nat.shiftLeft_eq]
    omega
  show BitVec.toNat (((((lo8 c &&& 255) <<< (0 : Int32)) ||| ((hi8 c &&& 255) <<< (8 : Int32))).toBitVec.setWidth 16).setWidth 32) = _
  rw [BitVec.toNat_setWidth, BitVec.toNat_setWidth, g]
  omega
end StrChars
namespace StrChars
open Jvm Sem ClassFile Op Lib Jvm.Stand Jvm.Free.XT Jvm.Free.ALB Jvm.Free.JM Jvm.Free
open Jvm.Lib.Cold (StaticIs)
theorem shr1 {n : Nat} (h : 2 * n < 2 ^ 31) : Int32.ofNat (2 * n) >>> ((1 : Int32) &&& 31) = Int32.ofNat n := by
  have e : ((1 : Int32) &&& 31) = 1 := by decide
  rw [e]
  apply Int32.toBitVec_inj.mp
  rw [Int32.toBitVec_shiftRight]
  have e1 : ((1 : Int32).toBitVec.smod 32) = 1#32 := by decide
  have hm : (BitVec.ofNat 32 (2 * n)).toNat = 2 * n := by rw [BitVec.toNat_ofNat, Nat.mod_eq_of_lt (by omega)]
  rw [e1, BitVec.sshiftRight_eq']
  apply BitVec.eq_of_toNat_eq
  show ((BitVec.ofNat 32 (2 * n)).sshiftRight 1).toNat = (BitVec.ofNat 32 n).toNat
  rw [BitVec.toNat_sshiftRight_of_msb_false (by rw [BitVec.msb_eq_false_iff_two_mul_lt, hm]; omega), hm, BitVec.toNat_ofNat, Nat.shiftRight_eq_div_pow]
  omega
/-- charAt's cast of a byte read back -/
def chr8 (u : Int32) : Int32 := (u &&& 255).toUInt32.toUInt16.toUInt32.toInt32
theorem chr8_lo8 {c : Int32} (h0 : ¬ c < 0) (h1 : ¬ 255 < c) : chr8 (lo8 c) = c := by
  have t : ∀ k : Fin 256, (Int32.ofNat k.val).toUInt32.toUInt16.toUInt32.toInt32 = Int32.ofNat k.val := by decide +kernel
  unfold chr8
  rw [lo8_mask h0 h1]
  rw [Int32.lt_iff_toInt_lt] at h0 h1
  have e0 : (0 : Int32).toInt = 0 := rfl
  have e1 : (255 : Int32).toInt = 255 := rfl
  obtain ⟨k, hk⟩ : ∃ k : Nat, c.toInt = k := ⟨c.toInt.toNat, by omega⟩
  have hx : c = Int32.ofNat k := Int32.toInt_inj.mp (by rw [hk, Int32.toInt_ofNat_small (by omega)])
  rw [hx]
  exact t ⟨k, by omega⟩
theorem narrow_ch {c : Int32} (h0 : ¬ c < 0) (h1 : ¬ 65535 < c) : narrow .char (.int c) = .int c := by
  have q : narrow .char (.int (pairCh (lo8 c) (hi8 c))) = .int (pairCh (lo8 c) (hi8 c)) := narrow_c _
  rwa [pair_says h0 h1] at q
/-- the array's cell V codes the n chars f 0 .. f (n - 1) by the coder cd, as the JDK does: coder 1 just where some char is above 255 -/
def Cod (cd : Int32) (n : Nat) (f : Nat → Int32) (V : Cell) : Prop := (cd = 0 ∧ V.slots.size = n ∧ ∀ j, j < n → V.slots[j]? = some (.int (lo8 (f j))) ∧ ¬ 255 < f j) ∨ (cd = 1 ∧ V.slots.size = 2 * n ∧ (∀ j, j < n → V.slots[2 * j]? = some (.int (lo8 (f j))) ∧ V.slots[2 * j + 1]? = some (.int (hi8 (f j)))) ∧ ∃ j, j < n ∧ 255 < f j)
theorem Cod.cd {cd : Int32} {n : Nat} {f : Nat → Int32} {V : Cell} (h : Cod cd n f V) : cd = 0 ∨ cd = 1 := h.imp (fun q => q.1) fun q => q.1
theorem Cod.len {cd : Int32} {n : Nat} {f : Nat → Int32} {V : Cell} (h : Cod cd n f V) (hs : V.slots.size < 2 ^ 31) : Int32.ofNat V.slots.size >>> (cd &&& 31) = Int32.ofNat n := by
  rcases h with ⟨rfl, h, -⟩ | ⟨rfl, h, -⟩
  · rw [shr0, h]
  · rw [h, shr1 (by omega)]
/-- **x is a String of the n chars f 0 .. f (n - 1)**, Latin-1 or UTF-16; its array at t has the cell V -/
def Txt (x t : Addr) (V : Cell) (cd : Int32) (n : Nat) (f : Nat → Int32) (U : State) : Prop := Exact "java/lang/String" x U ∧ Has x "java/lang/String" "value" "[B" (.ref t) U ∧ Has x "java/lang/String" "coder" "B" (.int cd) U ∧ XT.Arr .byte t V U ∧ Cod cd n f V ∧ ∀ j, j < n → ¬ f j < 0 ∧ ¬ 65535 < f j
theorem Txt.mv {x t : Addr} {V : Cell} {cd : Int32} {n : Nat} {f : Nat → Int32} {U U' : State} (h : Txt x t V cd n f U) (hal : U.vm.Alike U'.vm) (hh : U'.heap = U.heap) : Txt x t V cd n f U' := ⟨h.1.mv hal hh, h.2.1.mv hal hh, h.2.2.1.mv hal hh, h.2.2.2.1.mv hal hh, h.2.2.2.2⟩
namespace Cdr
def yN : MethodName := ⟨"java/lang/String", "coder", "()B"⟩
abbrev yB : ByteArray := jdk_42_method_152_code
theorem d0 : decode yB 0 = .ok (.getstatic 38, 3) := by decide +kernel
theorem d3 : decode yB 3 = .ok (.ifCond (.eq) 10, 3) := by decide +kernel
theorem d6 : decode yB 6 = .ok (.aload_n 0, 1) := by decide +kernel
theorem d7 : decode yB 7 = .ok (.getfield 15, 3) := by decide +kernel
theorem d10 : decode yB 10 = .ok (.goto 4, 3) := by decide +kernel
theorem d14 : decode yB 14 = .ok (.ireturn, 1) := by decide +kernel
def site : List Cond := [.fieldLink "java/lang/String" 38 "java/lang/String" "COMPACT_STRINGS" "Z", .fieldLink "java/lang/String" 15 "java/lang/String" "coder" "B"]
def tab : Cond := tabOf yN yB 1 (some .byte) site
def P (x : Addr) (cd z : Int32) (args : Array Value) (s : State) : Prop := args = #[.ref x] ∧ Has x "java/lang/String" "coder" "B" (.int cd) s ∧ (cd = 0 ∨ cd = 1) ∧ StaticIs s "java/lang/String" "COMPACT_STRINGS" "Z" (.int z) ∧ ¬ z = 0
def E (cd : Int32) (r : Option Value) (s u : State) : Prop := XT.PureE (some (.int cd)) r s u
theorem law (l : Launch) (x : Addr) (cd z : Int32) : Law l yN 1 0 0 0 yB 1 (some .byte) site (P x cd z) (E cd) [] 0 0 := by
  refine Law.of_walk (plainFor_of_name (by decide +kernel)) (by decide +kernel) (by decide +kernel) (by decide) (fun _ _ h => by rw [h.1]; rfl) (fun _ U U' hal hh h => ⟨h.1, h.2.1.mv hal hh, h.2.2.1, h.2.2.2.1.there hal hh, h.2.2.2.2⟩) (fun r U U' V V' h1 hal h2 h => XT.PureE.mv r U U' V V' h1 hal h2 h) ?_
  intro p e s m args below meth c s₁ X0 hexec hbytes hml hret hlk hnm hown hh0 W hP
  obtain ⟨rfl, hx, hc, s1, hz⟩ := hP
  have c1 : Steps p.tables e below (s₁.setTop (entryFrame m #[.ref x] 1)) (s₁.setTop (mkF m 0 #[.val (.ref x)] [])) := entry rfl
  obtain ⟨T2, X2, q2, st2⟩ := X0.sget hexec hown (wk W (.fieldLink "java/lang/String" 38 "java/lang/String" "COMPACT_STRINGS" "Z")) s1 (fun _ _ h => by rw [hh0]; exact h) (g := (mkF m 0 #[.val (.ref x)] [])) rfl (hb hbytes d0)
  have hh2 := q2.trans hh0
  have c3 : Steps p.tables e below (s₁.setTop (entryFrame m #[.ref x] 1)) (T2.setTop (mkF m 7 #[.val (.ref x)] [.ref x])) := (c1.trans (st2 _ (Steps.refl _))).trans (by
    refine XS.ifNo X2.here hexec rfl (hb hbytes d3) rfl (i0_eq_f hz) ?_
    refine XS.aloadN X2.here hexec rfl (hb hbytes d6) rfl rfl ?_
    exact Steps.refl _)
  obtain ⟨T4, X4, q4, st4⟩ := X2.hget hexec hown (wk W (.fieldLink "java/lang/String" 15 "java/lang/String" "coder" "B")) (hx.mv X2.warmed.alike hh2) (g := (mkF m 7 #[.val (.ref x)] [.ref x])) rfl (rest := []) rfl (hb hbytes d7)
  have c5 : Steps p.tables e below (s₁.setTop (entryFrame m #[.ref x] 1)) (T4.setTop (mkF m 14 #[.val (.ref x)] [.int cd])) := (c3.trans (st4 _ (Steps.refl _))).trans (by
    refine XS.goto X4.here hexec rfl (pc0 := 10) rfl (hb hbytes d10) (by decide) rfl ?_
    exact Steps.refl _)
  exact ⟨T4, some (.int cd), _, _, _, X4, rfl, rfl, rfl, (fun h => by cases h), ⟨rfl, q4.trans hh2⟩, fun fs hl => c5.trans (X4.ireturnOut hexec hret (by rcases hc with rfl | rfl <;> rfl) (Or.inr (Or.inr (Or.inl rfl))) (hb hbytes d14) hl)⟩
end Cdr
namespace Len
def yN : MethodName := ⟨"java/lang/String", "length", "()I"⟩
abbrev yB : ByteArray := jdk_42_method_54_code
theorem d0 : decode yB 0 = .ok (.aload_n 0, 1) := by decide +kernel
theorem d1 : decode yB 1 = .ok (.getfield 9, 3) := by decide +kernel
theorem d4 : decode yB 4 = .ok (.arraylength, 1) := by decide +kernel
theorem d5 : decode yB 5 = .ok (.aload_n 0, 1) := by decide +kernel
theorem d6 : decode yB 6 = .ok (.invokevirtual 335, 3) := by decide +kernel
theorem d9 : decode yB 9 = .ok (.ishr, 1) := by decide +kernel
theorem d10 : decode yB 10 = .ok (.ireturn, 1) := by decide +kernel
def site : List Cond := [.fieldLink "java/lang/String" 9 "java/lang/String" "value" "[B", Cdr.tab] ++ virtW "java/lang/String" 335 "java/lang/String" Cdr.yN Cdr.yN
def tab : Cond := tabOf yN yB 1 (some .int) site
def P (x t : Addr) (V : Cell) (cd : Int32) (n : Nat) (f : Nat → Int32) (z : Int32) (args : Array Value) (s : State) : Prop := args = #[.ref x] ∧ Txt x t V cd n f s ∧ StaticIs s "java/lang/String" "COMPACT_STRINGS" "Z" (.int z) ∧ ¬ z = 0
def E (n : Nat) (r : Option Value) (s u : State) : Prop := XT.PureE (some (.int (Int32.ofNat n))) r s u
/-- length() of a String of n chars, in either coding -/
theorem law (l : Launch) (x t : Addr) (V : Cell) (cd : Int32) (n : Nat) (f : Nat → Int32) (z : Int32) : Law l yN 1 0 1 13 yB 1 (some .int) site (P x t V cd n f z) (E n) [] 0 0 := by
  refine Law.of_walk (plainFor_of_name (by decide +kernel)) (by decide +kernel) (by decide +kernel) (by decide) (fun _ _ h => by rw [h.1]; rfl) (fun _ U U' hal hh h => ⟨h.1, h.2.1.mv hal hh, h.2.2.1.there hal hh, h.2.2.2⟩) (fun r U U' V V' h1 hal h2 h => XT.PureE.mv r U U' V V' h1 hal h2 h) ?_
  intro p e s m args below meth c s₁ X0 hexec hbytes hml hret hlk hnm hown hh0 W hP
  obtain ⟨rfl, hx, s1, hz⟩ := hP
  have v31 := hx.2.2.2.1.2.2.2
  have c1 : Steps p.tables e below (s₁.setTop (entryFrame m #[.ref x] 1)) (s₁.setTop (mkF m 1 #[.val (.ref x)] [.ref x])) := Steps.trans (entry rfl) (by
    show Steps p.tables e below (s₁.setTop (mkF m 0 #[.val (.ref x)] [])) _
    refine XS.aloadN X0.here hexec rfl (hb hbytes d0) rfl rfl ?_
    exact Steps.refl _)
  obtain ⟨T2, X2, q2, st2⟩ := X0.hget hexec hown (wk W (.fieldLink "java/lang/String" 9 "java/lang/String" "value" "[B")) (hx.mv X0.warmed.alike hh0).2.1 (g := (mkF m 1 #[.val (.ref x)] [.ref x])) rfl (rest := []) rfl (hb hbytes d1)
  have hh2 := q2.trans hh0
  have hx2 := hx.mv X2.warmed.alike hh2
  have c3 : Steps p.tables e below (s₁.setTop (entryFrame m #[.ref x] 1)) (T2.setTop (mkF m 6 #[.val (.ref x)] [.ref x, .int (Int32.ofNat V.slots.size)])) := (c1.trans (st2 _ (Steps.refl _))).trans (by
    refine X2.alen hexec hx2.2.2.2.1 rfl rfl (hb hbytes d4) ?_
    refine XS.aloadN X2.here hexec rfl (hb hbytes d5) rfl rfl ?_
    exact Steps.refl _)
  obtain ⟨v4, T4, X4, E4, g4⟩ := X2.callV hexec (Cdr.law l x cd z) hown (wks W (virtW "java/lang/String" 335 "java/lang/String" Cdr.yN Cdr.yN)) rfl (by decide) (wk W Cdr.tab) (W := 1) (Nat.le_of_ble_eq_true rfl) (Nat.le_of_ble_eq_true rfl) (Nat.le_refl _) (Nat.le_refl _) (hx2.1.fc X2.warmed.alike) hx2.1.is (g := (mkF m 6 #[.val (.ref x)] [.ref x, .int (Int32.ofNat V.slots.size)])) rfl (by rw [hml]; rfl) c3 (argsL := []) (rest := [.int (Int32.ofNat V.slots.size)]) rfl rfl (by show 2 * 0 + (1 + 0) ≤ _; decide) (hb hbytes d6) (⟨rfl, hx2.2.2.1, hx.2.2.2.2.1.cd, s1.there X2.warmed.alike hh2, hz⟩)
  obtain ⟨rfl, q4⟩ := E4
  have c5 : Steps p.tables e below (s₁.setTop (entryFrame m #[.ref x] 1)) (T4.setTop (mkF m 10 #[.val (.ref x)] [.int (Int32.ofNat V.slots.size >>> (cd &&& 31))])) := Steps.trans g4 (by
    refine ishr X4.here hexec rfl (hb hbytes d9) rfl ?_
    exact Steps.refl _)
  rw [hx.2.2.2.2.1.len v31] at c5
  exact ⟨T4, some (.int (Int32.ofNat n)), _, _, _, X4, rfl, rfl, rfl, (fun h => by cases h), ⟨rfl, q4.trans hh2⟩, fun fs hl => c5.trans (X4.ireturnOut hexec hret rfl (Or.inl rfl) (hb hbytes d10) hl)⟩
theorem pays {l : Launch} {R : Room} {p : Program} {e : Env} {below : List Frame} {s : State} {sargs : Array Value} {len W : Nat} (x t : Addr) (V : Cell) (cd : Int32) (n : Nat) (f : Nat → Int32) (z : Int32) (htab : tab.before sargs s = true) (hfr : 2 ≤ R.frames) (hlo : W + 25 ≤ R.locals) :
    Back l R p e below s sargs yN len W (fun A₁ a₁ => A₁.cells + 0 ≤ R.cells ∧ A₁.slots + 0 ≤ R.slots ∧ P x t V cd n f z a₁ A₁.U) (fun A₁ _ v₁ B₁ => E n v₁ A₁.U B₁.U ∧ B₁.locs = A₁.locs ++ [] ∧ B₁.cells = A₁.cells + 0 ∧ B₁.slots = A₁.slots + 0) :=
  (law l x t V cd n f z).pays htab hfr (by omega)
end Len
namespace IsL
def yN : MethodName := ⟨"java/lang/String", "isLatin1", "()Z"⟩
abbrev yB : ByteArray := jdk_42_method_154_code
theorem d0 : decode yB 0 = .ok (.getstatic 38, 3) := by decide +kernel
theorem d3 : decode yB 3 = .ok (.ifCond (.eq) 14, 3) := by decide +kernel
theorem d6 : decode yB 6 = .ok (.aload_n 0, 1) := by decide +kernel
theorem d7 : decode yB 7 = .ok (.getfield 15, 3) := by decide +kernel
theorem d10 : decode yB 10 = .ok (.ifCond (.ne) 7, 3) := by decide +kernel
theorem d13 : decode yB 13 = .ok (.iconst 1, 1) := by decide +kernel
theorem d14 : decode yB 14 = .ok (.goto 4, 3) := by decide +kernel
theorem d17 : decode yB 17 = .ok (.iconst 0, 1) := by decide +kernel
theorem d18 : decode yB 18 = .ok (.ireturn, 1) := by decide +kernel
def site : List Cond := [.fieldLink "java/lang/String" 38 "java/lang/String" "COMPACT_STRINGS" "Z", .fieldLink "java/lang/String" 15 "java/lang/String" "coder" "B"]
def tab : Cond := tabOf yN yB 1 (some .boolean) site
def P (x : Addr) (cd z : Int32) (args : Array Value) (s : State) : Prop := args = #[.ref x] ∧ Has x "java/lang/String" "coder" "B" (.int cd) s ∧ (cd = 0 ∨ cd = 1) ∧ StaticIs s "java/lang/String" "COMPACT_STRINGS" "Z" (.int z) ∧ ¬ z = 0
def E (cd : Int32) (r : Option Value) (s u : State) : Prop := XT.PureE (some (.int (1 - cd))) r s u
theorem law (l : Launch) (x : Addr) (cd z : Int32) : Law l yN 1 0 0 0 yB 1 (some .boolean) site (P x cd z) (E cd) [] 0 0 := by
  refine Law.of_walk (plainFor_of_name (by decide +kernel)) (by decide +kernel) (by decide +kernel) (by decide) (fun _ _ h => by rw [h.1]; rfl) (fun _ U U' hal hh h => ⟨h.1, h.2.1.mv hal hh, h.2.2.1, h.2.2.2.1.there hal hh, h.2.2.2.2⟩) (fun r U U' V V' h1 hal h2 h => XT.PureE.mv r U U' V V' h1 hal h2 h) ?_
  intro p e s m args below meth c s₁ X0 hexec hbytes hml hret hlk hnm hown hh0 W hP
  obtain ⟨rfl, hx, hc, s1, hz⟩ := hP
  have c1 : Steps p.tables e below (s₁.setTop (entryFrame m #[.ref x] 1)) (s₁.setTop (mkF m 0 #[.val (.ref x)] [])) := entry rfl
  obtain ⟨T2, X2, q2, st2⟩ := X0.sget hexec hown (wk W (.fieldLink "java/lang/String" 38 "java/lang/String" "COMPACT_STRINGS" "Z")) s1 (fun _ _ h => by rw [hh0]; exact h) (g := (mkF m 0 #[.val (.ref x)] [])) rfl (hb hbytes d0)
  have hh2 := q2.trans hh0
  have c3 : Steps p.tables e below (s₁.setTop (entryFrame m #[.ref x] 1)) (T2.setTop (mkF m 7 #[.val (.ref x)] [.ref x])) := (c1.trans (st2 _ (Steps.refl _))).trans (by
    refine XS.ifNo X2.here hexec rfl (hb hbytes d3) rfl (i0_eq_f hz) ?_
    refine XS.aloadN X2.here hexec rfl (hb hbytes d6) rfl rfl ?_
    exact Steps.refl _)
  obtain ⟨T4, X4, q4, st4⟩ := X2.hget hexec hown (wk W (.fieldLink "java/lang/String" 15 "java/lang/String" "coder" "B")) (hx.mv X2.warmed.alike hh2) (g := (mkF m 7 #[.val (.ref x)] [.ref x])) rfl (rest := []) rfl (hb hbytes d7)
  have c5 : Steps p.tables e below (s₁.setTop (entryFrame m #[.ref x] 1)) (T4.setTop (mkF m 10 #[.val (.ref x)] [.int cd])) := c3.trans (st4 _ (Steps.refl _))
  have c6 : Steps p.tables e below (s₁.setTop (entryFrame m #[.ref x] 1)) (T4.setTop (mkF m 18 #[.val (.ref x)] [.int (1 - cd)])) := by
    rcases hc with rfl | rfl
    · exact c5.trans (by
        refine XS.ifNo X4.here hexec rfl (hb hbytes d10) rfl (i0_ne_f rfl) ?_
        refine iconstV X4.here hexec rfl 1 (hb hbytes d13) (by decide) ?_
        refine XS.goto X4.here hexec rfl (pc0 := 14) rfl (hb hbytes d14) (by decide) rfl ?_
        exact Steps.refl _)
    · exact c5.trans (by
        refine XS.ifYes X4.here hexec rfl (pc0 := 10) rfl (hb hbytes d10) rfl (i0_ne_t (by decide)) (by decide) rfl ?_
        refine iconstV X4.here hexec rfl 0 (hb hbytes d17) (by decide) ?_
        exact Steps.refl _)
  exact ⟨T4, some (.int (1 - cd)), _, _, _, X4, rfl, rfl, rfl, (fun h => by cases h), ⟨rfl, q4.trans hh2⟩, fun fs hl => c6.trans (X4.ireturnOut hexec hret (by rcases hc with rfl | rfl <;> rfl) (Or.inr (Or.inl rfl)) (hb hbytes d18) hl)⟩
end IsL
namespace LChA
def yN : MethodName := ⟨"java/lang/StringLatin1", "charAt", "([BI)C"⟩
abbrev yB : ByteArray := jdk_43_method_2_code
theorem d0 : decode yB 0 = .ok (.iload_n 1, 1) := by decide +kernel
theorem d1 : decode yB 1 = .ok (.aload_n 0, 1) := by decide +kernel
theorem d2 : decode yB 2 = .ok (.arraylength, 1) := by decide +kernel
theorem d3 : decode yB 3 = .ok (.invokestatic 9, 3) := by decide +kernel
theorem d6 : decode yB 6 = .ok (.aload_n 0, 1) := by decide +kernel
theorem d7 : decode yB 7 = .ok (.iload_n 1, 1) := by decide +kernel
theorem d8 : decode yB 8 = .ok (.baload, 1) := by decide +kernel
theorem d9 : decode yB 9 = .ok (.sipush 255, 3) := by decide +kernel
theorem d12 : decode yB 12 = .ok (.iand, 1) := by decide +kernel
theorem d13 : decode yB 13 = .ok (.i2c, 1) := by decide +kernel
theorem d14 : decode yB 14 = .ok (.ireturn, 1) := by decide +kernel
def site : List Cond := [JO.Str_checkIndex.tab] ++ staticW "java/lang/StringLatin1" 9 JO.Str_checkIndex.yN
def tab : Cond := tabOf yN yB 2 (some .char) site
def P (t : Addr) (V : Cell) (i : Nat) (u : Int32) (fm : Value) (args : Array Value) (s : State) : Prop := args = #[.ref t, .int (Int32.ofNat i)] ∧ XT.Arr .byte t V s ∧ V.slots[i]? = some (.int u) ∧ (StaticIs s "jdk/internal/util/Preconditions" "SIOOBE_FORMATTER" "Ljava/util/function/BiFunction;" fm ∧ fm.isRef = true)
def E (u : Int32) (r : Option Value) (s w : State) : Prop := XT.PureE (some (.int (chr8 u))) r s w
theorem law (l : Launch) (t : Addr) (V : Cell) (i : Nat) (u : Int32) (fm : Value) : Law l yN 2 2 2 27 yB 2 (some .char) site (P t V i u fm) (E u) [] 0 0 := by
  refine Law.of_walk (plainFor_of_name (by decide +kernel)) (by decide +kernel) (by decide +kernel) (by decide) (fun _ _ h => by rw [h.1]; rfl) (fun _ U U' hal hh h => ⟨h.1, h.2.1.mv hal hh, h.2.2.1, h.2.2.2.1.there hal hh, h.2.2.2.2⟩) (fun r U U' V V' h1 hal h2 h => XT.PureE.mv r U U' V V' h1 hal h2 h) ?_
  intro p e s m args below meth c s₁ X0 hexec hbytes hml hret hlk hnm hown hh0 W hP
  obtain ⟨rfl, hV, hu, s1, rf⟩ := hP
  have v31 := hV.2.2.2
  have hi : i < V.slots.size := (Array.getElem?_eq_some_iff.mp hu).1
  have c1 : Steps p.tables e below (s₁.setTop (entryFrame m #[.ref t, .int (Int32.ofNat i)] 2)) (s₁.setTop (mkF m 0 #[.val (.ref t), .val (.int (Int32.ofNat i))] [])) := entry rfl
  have c2 : Steps p.tables e below (s₁.setTop (entryFrame m #[.ref t, .int (Int32.ofNat i)] 2)) (s₁.setTop (mkF m 3 #[.val (.ref t), .val (.int (Int32.ofNat i))] [.int (Int32.ofNat V.slots.size), .int (Int32.ofNat i)])) := c1.trans (by
    refine XS.iloadN X0.here hexec rfl (hb hbytes d0) rfl ?_
    refine XS.aloadN X0.here hexec rfl (hb hbytes d1) rfl rfl ?_
    refine X0.alen hexec (hV.mv X0.warmed.alike hh0) rfl rfl (hb hbytes d2) ?_
    exact Steps.refl _)
  obtain ⟨v3, T3, X3, E3, g3⟩ := X0.callS hexec (JO.Str_checkIndex.law l (Int32.ofNat i) (Int32.ofNat V.slots.size) fm) hown (wks W (staticW "java/lang/StringLatin1" 9 JO.Str_checkIndex.yN)) (wk W JO.Str_checkIndex.tab) (W := 0) (Nat.le_of_ble_eq_true rfl) (Nat.le_of_ble_eq_true rfl) (Nat.le_refl _) (Nat.le_refl _) (g := (mkF m 3 #[.val (.ref t), .val (.int (Int32.ofNat i))] [.int (Int32.ofNat V.slots.size), .int (Int32.ofNat i)])) rfl (by rw [hml]; rfl) c2 (argsL := [.int (Int32.ofNat i), .int (Int32.ofNat V.slots.size)]) (rest := []) rfl rfl (by show 2 * 0 + 0 ≤ _; decide) (hb hbytes d3) (⟨rfl, rf, s1.there X0.warmed.alike hh0, Int32.ofNat_not_neg (by omega), lt32 v31 hi⟩)
  obtain ⟨rfl, q3⟩ := E3
  have hh3 := q3.trans hh0
  have c4 : Steps p.tables e below (s₁.setTop (entryFrame m #[.ref t, .int (Int32.ofNat i)] 2)) (T3.setTop (mkF m 14 #[.val (.ref t), .val (.int (Int32.ofNat i))] [.int (chr8 u)])) := Steps.trans g3 (by
    refine XS.aloadN X3.here hexec rfl (hb hbytes d6) rfl rfl ?_
    refine XS.iloadN X3.here hexec rfl (hb hbytes d7) rfl ?_
    refine X3.aget hexec (hV.mv X3.warmed.alike hh3) rfl hu rfl rfl (hb hbytes d8) ?_
    refine sipushV X3.here hexec rfl 255 (hb hbytes d9) (by decide) ?_
    refine XS.iand X3.here hexec rfl (hb hbytes d12) rfl ?_
    refine i2c X3.here hexec rfl (hb hbytes d13) rfl ?_
    exact Steps.refl _)
  exact ⟨T3, some (.int (chr8 u)), _, _, _, X3, rfl, rfl, rfl, (fun h => by cases h), ⟨rfl, hh3⟩, fun fs hl => c4.trans (X3.ireturnOut hexec hret (narrow_c _) (Or.inr (Or.inr (Or.inr (Or.inl rfl)))) (hb hbytes d14) hl)⟩
end LChA
end StrChars
namespace StrChars.Road
open Jvm Sem ClassFile Op Lib Jvm.Stand Jvm.Free Jvm.Free.XT
open Jvm.Lib.Cold (StaticIs)
theorem consq {a : Array Value} {s : State} {c : Jvm.Cond} {L : List Jvm.Cond} (h0 : c.before a s = true) (h : ∀ w ∈ L, w.before a s = true) : ∀ w ∈ c :: L, w.before a s = true := fun w hw => (List.mem_cons.mp hw).elim (fun e => e ▸ h0) (h w)
/-- the words of String.length(), either coding -/
abbrev wordsLen : List Jvm.Cond := [.code Len.yN Len.yB 1 (some .int), .initialized ST, .fieldLink ST 9 ST "value" "[B", .fieldLink ST 38 ST "COMPACT_STRINGS" "Z", .fieldLink ST 15 ST "coder" "B", .code Cdr.yN Cdr.yB 1 (some .byte), .methodLink ST 335 Cdr.yN, .declares Cdr.yN, .selects ST Cdr.yN Cdr.yN, .instanceMethod Cdr.yN]
theorem tabLen_of {a : Array Value} {s : State} (h : ∀ w ∈ wordsLen, w.before a s = true) : Len.tab.before a s = true := by
  have hc : Cdr.tab.before a s = true := unparts (wk h (.code Cdr.yN Cdr.yB 1 (some .byte))) (wks h (.initialized Cdr.yN.cls :: Cdr.site))
  have q := consq hc h
  exact unparts (wk q (.code Len.yN Len.yB 1 (some .int))) (wks q (.initialized Len.yN.cls :: Len.site))
theorem movedLen {Z s : State} {a0 args : Array Value} (hZ : Z.Warmed39 s.vm) (hw : ∀ d ∈ wordsLen, d.before a0 Z = true) : ∀ d ∈ wordsLen, d.before args s = true := fun d hd => by
  have q := hw d hd
  have t : ∀ d ∈ wordsLen, d = .arrayClass .byte ∨ (d.onTables && d.keepsFace) = true := by decide +kernel
  rcases t d hd with rfl | t
  · exact RoadKit.mvA hZ q
  · exact RoadKit.mv hZ q t
/-- the bytes of the chars cs, low before high -/
def wideBytes : List Int32 → List Value
  | [] => []
  | c :: cs => .int (lo8 c) :: .int (hi8 c) :: wideBytes cs
theorem wide_lo (d : Value) : ∀ (cs : List Int32) (j : Nat), j < cs.length → (wideBytes cs).getD (2 * j) d = .int (lo8 (cs.getD j 0))
  | [], j, h => absurd h (Nat.not_lt_zero j)
  | c :: cs, 0, _ => rfl
  | c :: cs, j + 1, h => by
    have q := wide_lo d cs j (by simpa using h)
    rw [show 2 * (j + 1) = 2 * j + 1 + 1 from by omega]
    simpa [wideBytes] using q
theorem wide_hi (d : Value) : ∀ (cs : List Int32) (j : Nat), j < cs.length → (wideBytes cs).getD (2 * j + 1) d = .int (hi8 (cs.getD j 0))
  | [], j, h => absurd h (Nat.not_lt_zero j)
  | c :: cs, 0, _ => rfl
  | c :: cs, j + 1, h => by
    have q := wide_hi d cs j (by simpa using h)
    rw [show 2 * (j + 1) + 1 = 2 * j + 1 + 1 + 1 from by omega]
    simpa [wideBytes] using q
theorem low_at (d : Value) (cs : List Int32) (j : Nat) (h : j < cs.length) : (cs.map fun c => Value.int (lo8 c)).getD j d = .int (lo8 (cs.getD j 0)) := by
  simp [List.getD_eq_getElem?_getD, h]
/-- an array of N2 bytes vs codes the chars cs by the coder cd -/
def CodA (cs : List Int32) (cd N2 : Int32) (vs : List Value) : Prop := (cd = 0 ∧ N2 = Int32.ofNat cs.length ∧ vs = (cs.map fun c => Value.int (lo8 c)) ∧ ∀ c ∈ cs, ¬ 255 < c) ∨ (cd = 1 ∧ N2 = Int32.ofNat (2 * cs.length) ∧ vs = wideBytes cs ∧ ∃ c ∈ cs, 255 < c)
theorem CodA.cod {cs : List Int32} {cd N2 : Int32} {vs : List Value} {V : Cell} (h : CodA cs cd N2 vs) (hn : 2 * cs.length < 2 ^ 31) (hs : V.slots.size = N2.toNatClampNeg) (hv : RoadKit.Has V vs (.int 0)) : Cod cd cs.length (fun j => cs.getD j 0) V := by
  rcases h with ⟨rfl, rfl, rfl, h⟩ | ⟨rfl, rfl, rfl, c, hc, hw⟩
  · rw [n32 (by omega)] at hs
    exact Or.inl ⟨rfl, hs, fun j hj => ⟨by rw [hv j (by omega), low_at _ _ _ hj], by
      have e : cs.getD j 0 = cs[j] := by simp [List.getD_eq_getElem?_getD, hj]
      show ¬ 255 < cs.getD j 0
      rw [e]; exact h _ (List.getElem_mem _)⟩⟩
  · rw [n32 (by omega)] at hs
    obtain ⟨j, hj, rfl⟩ := List.getElem_of_mem hc
    exact Or.inr ⟨rfl, hs, fun j hj => ⟨by rw [hv _ (by omega), wide_lo _ _ _ hj], by rw [hv _ (by omega), wide_hi _ _ _ hj]⟩, j, hj, by
      have e : cs.getD j 0 = cs[j] := by simp [List.getD_eq_getElem?_getD, hj]
      show 255 < cs.getD j 0
      rw [e]; exact hw⟩
/-- an object of exactly java/lang/String, its two fields found: as the laws ask it -/
theorem strObj {Z U : State} {a0 : Array Value} {kI : Nat} (wi : (Jvm.Cond.instantiable ST kI).before a0 Z = true) (al : Z.vm.Alike U.vm) {x : Addr} {v0 c0 : Value} (E : RoadKit.Exa Z U.heap x ST) (V : RoadKit.Fld Z U.heap x ST "value" "[B" v0) (C : RoadKit.Fld Z U.heap x ST "coder" "B" c0) :
    ∃ (D : Cell) (fV fC : Field), Blank ST x D U ∧ Found ST "value" "[B" fV U ∧ Found ST "coder" "B" fC U ∧ D.slots[fV.slot]? = some v0 ∧ D.slots[fC.slot]? = some c0 ∧ RoadKit.slotOf Z ST "value" "[B" = fV.slot ∧ RoadKit.slotOf Z ST "coder" "B" = fC.slot := by
  obtain ⟨D, cfV, kV, iV, fV, hD, gV, stV, knV, obV, asV, slV⟩ := V
  obtain ⟨D', cfC, kC, iC, fC, hD', gC, stC, -, -, asC, slC⟩ := C
  cases hD.symm.trans hD'
  obtain ⟨D2, kD, e1, e2, e3, e4, e5⟩ := E
  cases hD.symm.trans e1
  obtain ⟨c2, k2, i1, i2, i3, -⟩ := Cond.instantiable_spec wi
  cases e2.symm.trans i1
  cases e3.symm.trans i2
  obtain ⟨kU, u1, u2⟩ := al.2.2 _ _ e3
  exact ⟨D, fV, fC, ⟨hD, ⟨knV, fun q hq => by rw [hq] at obV; cases obV⟩, by rw [al.findClass]; exact e2, kU, u1, by rw [u2]; exact i3, by rw [u2]; exact e5 i3⟩, ⟨SBG.found_only al ⟨cfV, kV, iV, gV⟩, stV⟩, ⟨SBG.found_only al ⟨cfC, kC, iC, gC⟩, stC⟩, slV, slC, by simp [RoadKit.slotOf, gV], by simp [RoadKit.slotOf, gC]⟩
theorem sta_is {Z U : State} (al : Z.vm.Alike U.vm) {C n d : String} {v : Value} (S : RoadKit.Sta Z U.heap C n d v) : StaticIs U C n d v := by
  obtain ⟨cfS, iS, kS, fS, st, cS, t1, t2, t3, t4, t5, t6, t7⟩ := S
  exact StaticIs.there (s := { Z with heap := U.heap }) ⟨cfS, iS, kS, fS, st, cS, t1, t2, t3, t4, t5, (fun q => by rw [q] at t6; cases t6), t7⟩ al rfl
/-- **length() OF SUCH A STRING** -/
theorem lenW {p : Program} {l : Launch} {e : Env} {R : Room} {s : State} {args : Array Value} {below : List Frame} {len W : Nat} {Z : State} {a0 : Array Value} {h : Heap} (hZ : Z.Warmed39 s.vm) (hw : ∀ d ∈ wordsLen, d.before a0 Z = true) {kI : Nat} (wi : (Jvm.Cond.instantiable ST kI).before a0 Z = true)
    {x t : Addr} {kb : ClassId} {cs : List Int32} {cd N2 z : Int32} {vs : List Value} (E : RoadKit.Exa Z h x ST) (V : RoadKit.Fld Z h x ST "value" "[B" (.ref t)) (C : RoadKit.Fld Z h x ST "coder" "B" (.int cd)) (K : RoadKit.Arv Z h t kb .byte N2 vs (.int 0)) (hc : CodA cs cd N2 vs) (hb : ∀ c ∈ cs, ¬ c < 0 ∧ ¬ (65535 : Int32) < c)
    (S : RoadKit.Sta Z h ST "COMPACT_STRINGS" "Z" (.int z)) (hz : ¬ z = 0) (l2 : cs.length ≤ 4000) (hfr : 2 ≤ R.frames) (hlo : W + 25 ≤ R.locals) :
    Back l R p e below s args (⟨"java/lang/String", "length", "()I"⟩ : MethodName) len W (fun P a => a = #[.ref x] ∧ P.U.heap = h ∧ P.cells + 0 ≤ R.cells ∧ P.slots + 0 ≤ R.slots)
      (fun P _ v B => ∃ L, (v = some (.int (Int32.ofNat cs.length)) ∧ L = [] ∧ B.U.heap = h) ∧ B.locs = P.locs ++ L ∧ B.cells = P.cells + 0 ∧ B.slots = P.slots + 0) := by
  obtain ⟨A, K1, K2, K3, K4, K5, K6⟩ := K
  have hcod := hc.cod (by omega) K3 K5
  intro m meth c P g ig mk a X hg hsize hdg hW hn hp'
  obtain ⟨rfl, rfl, r1, r2⟩ := hp'
  have al : Z.vm.Alike P.U.vm := hZ.alike.trans X.warmed.alike
  obtain ⟨D, fV, fC, hB, F1, F2, g1, g2, -, -⟩ := strObj wi al E V C
  have hx : Txt x t A cd cs.length (fun j => cs.getD j 0) P.U := ⟨⟨_, hB.2.2.1, D, hB.1, rfl, by cases q : D.vm <;> first | rfl | exact absurd q (hB.2.1.2 _)⟩, Has.of hB F1 g1, Has.of hB F2 g2, ⟨K1.1, State.isArrayOf_alike al K1.2.1, K1.2.2, by rcases hcod with ⟨-, q, -⟩ | ⟨-, q, -⟩ <;> omega⟩, hcod, fun j hj => by
    have e : cs.getD j 0 = cs[j] := by simp [List.getD_eq_getElem?_getD, hj]
    show ¬ cs.getD j 0 < 0 ∧ ¬ 65535 < cs.getD j 0
    rw [e]; exact hb _ (List.getElem_mem _)⟩
  obtain ⟨v, B, X', ⟨⟨hv, hh⟩, hl, hk, hs⟩, st⟩ := Len.pays x t A cd cs.length (fun j => cs.getD j 0) z (tabLen_of (movedLen hZ hw)) hfr hlo m meth c P g ig mk _ X hg hsize hdg hW hn ⟨r1, r2, rfl, hx, sta_is al S, hz⟩
  exact ⟨v, B, X', ⟨[], ⟨hv, rfl, hh⟩, hl, hk, hs⟩, st⟩
end StrChars.Road
namespace StrChars.Road
open Jvm Sem ClassFile Op Lib Jvm.Stand Jvm.Free Jvm.Free.XT
open Jvm.Lib.Cold (StaticIs)
/-- the road's facts of a String, as the laws ask it -/
theorem txt_of {Z U : State} {a0 : Array Value} {kI : Nat} (wi : (Jvm.Cond.instantiable ST kI).before a0 Z = true) (al : Z.vm.Alike U.vm) {x t : Addr} {kb : ClassId} {cs : List Int32} {cd N2 : Int32} {vs : List Value} (E : RoadKit.Exa Z U.heap x ST) (V : RoadKit.Fld Z U.heap x ST "value" "[B" (.ref t)) (C : RoadKit.Fld Z U.heap x ST "coder" "B" (.int cd)) (K : RoadKit.Arv Z U.heap t kb .byte N2 vs (.int 0)) (hc : CodA cs cd N2 vs) (hb : ∀ c ∈ cs, ¬ c < 0 ∧ ¬ (65535 : Int32) < c) (l2 : cs.length ≤ 4000) :
    ∃ A, Txt x t A cd cs.length (fun j => cs.getD j 0) U := by
  obtain ⟨A, K1, K2, K3, K4, K5, K6⟩ := K
  have hcod := hc.cod (by omega) K3 K5
  obtain ⟨D, fV, fC, hB, F1, F2, g1, g2, -, -⟩ := strObj wi al E V C
  exact ⟨A, ⟨_, hB.2.2.1, D, hB.1, rfl, by cases q : D.vm <;> first | rfl | exact absurd q (hB.2.1.2 _)⟩, Has.of hB F1 g1, Has.of hB F2 g2, ⟨K1.1, State.isArrayOf_alike al K1.2.1, K1.2.2, by rcases hcod with ⟨-, q, -⟩ | ⟨-, q, -⟩ <;> omega⟩, hcod, fun j hj => by
    have e : cs.getD j 0 = cs[j] := by simp [List.getD_eq_getElem?_getD, hj]
    show ¬ cs.getD j 0 < 0 ∧ ¬ 65535 < cs.getD j 0
    rw [e]; exact hb _ (List.getElem_mem _)⟩
end StrChars.Road
namespace StrChars
open Jvm Sem ClassFile Op Lib Jvm.Stand Jvm.Free.XT Jvm.Free.ALB Jvm.Free.JM Jvm.Free
open Jvm.Lib.Cold (StaticIs)
namespace ChN
def yN : MethodName := ⟨"java/lang/String", "charAt", "(I)C"⟩
abbrev yB : ByteArray := jdk_42_method_56_code
theorem d0 : decode yB 0 = .ok (.aload_n 0, 1) := by decide +kernel
theorem d1 : decode yB 1 = .ok (.invokevirtual 492, 3) := by decide +kernel
theorem d4 : decode yB 4 = .ok (.ifCond (.eq) 12, 3) := by decide +kernel
theorem d7 : decode yB 7 = .ok (.aload_n 0, 1) := by decide +kernel
theorem d8 : decode yB 8 = .ok (.getfield 9, 3) := by decide +kernel
theorem d11 : decode yB 11 = .ok (.iload_n 1, 1) := by decide +kernel
theorem d12 : decode yB 12 = .ok (.invokestatic 495, 3) := by decide +kernel
theorem d15 : decode yB 15 = .ok (.ireturn, 1) := by decide +kernel
def site : List Cond := [.fieldLink "java/lang/String" 9 "java/lang/String" "value" "[B", IsL.tab, LChA.tab] ++ virtW "java/lang/String" 492 "java/lang/String" IsL.yN IsL.yN ++ staticW "java/lang/String" 495 LChA.yN
def tab : Cond := tabOf yN yB 2 (some .char) site
def P (x t : Addr) (V : Cell) (n : Nat) (f : Nat → Int32) (z : Int32) (fm : Value) (i : Nat) (args : Array Value) (s : State) : Prop := args = #[.ref x, .int (Int32.ofNat i)] ∧ Txt x t V 0 n f s ∧ i < n ∧ StaticIs s "java/lang/String" "COMPACT_STRINGS" "Z" (.int z) ∧ ¬ z = 0 ∧ StaticIs s "jdk/internal/util/Preconditions" "SIOOBE_FORMATTER" "Ljava/util/function/BiFunction;" fm ∧ fm.isRef = true
def E (f : Nat → Int32) (i : Nat) (r : Option Value) (s u : State) : Prop := XT.PureE (some (.int (f i))) r s u
/-- charAt(i) of a Latin-1 String of n chars, i < n: f i -/
theorem law (l : Launch) (x t : Addr) (V : Cell) (n : Nat) (f : Nat → Int32) (z : Int32) (fm : Value) (i : Nat) : Law l yN 2 1 3 40 yB 2 (some .char) site (P x t V n f z fm i) (E f i) [] 0 0 := by
  refine Law.of_walk (plainFor_of_name (by decide +kernel)) (by decide +kernel) (by decide +kernel) (by decide) (fun _ _ h => by rw [h.1]; rfl) (fun _ U U' hal hh h => ⟨h.1, h.2.1.mv hal hh, h.2.2.1, h.2.2.2.1.there hal hh, h.2.2.2.2.1, h.2.2.2.2.2.1.there hal hh, h.2.2.2.2.2.2⟩) (fun r U U' V V' h1 hal h2 h => XT.PureE.mv r U U' V V' h1 hal h2 h) ?_
  intro p e s m args below meth c s₁ X0 hexec hbytes hml hret hlk hnm hown hh0 W hP
  obtain ⟨rfl, hx, hi, s1, hz, s3, rf⟩ := hP
  have v31 := hx.2.2.2.1.2.2.2
  have hr := hx.2.2.2.2.2 i hi
  have hx0 := hx.mv X0.warmed.alike hh0
  have c1 : Steps p.tables e below (s₁.setTop (entryFrame m #[.ref x, .int (Int32.ofNat i)] 2)) (s₁.setTop (mkF m 1 #[.val (.ref x), .val (.int (Int32.ofNat i))] [.ref x])) := Steps.trans (entry rfl) (by
    show Steps p.tables e below (s₁.setTop (mkF m 0 #[.val (.ref x), .val (.int (Int32.ofNat i))] [])) _
    refine XS.aloadN X0.here hexec rfl (hb hbytes d0) rfl rfl ?_
    exact Steps.refl _)
  obtain ⟨v2, T2, X2, E2, g2⟩ := X0.callV hexec (IsL.law l x 0 z) hown (wks W (virtW "java/lang/String" 492 "java/lang/String" IsL.yN IsL.yN)) rfl (by decide) (wk W IsL.tab) (W := 0) (Nat.le_of_ble_eq_true rfl) (Nat.le_of_ble_eq_true rfl) (Nat.le_refl _) (Nat.le_refl _) (hx0.1.fc X0.warmed.alike) hx0.1.is (g := (mkF m 1 #[.val (.ref x), .val (.int (Int32.ofNat i))] [.ref x])) rfl (by rw [hml]; rfl) c1 (argsL := []) (rest := []) rfl rfl (by show 2 * 0 + 0 ≤ _; decide) (hb hbytes d1) (⟨rfl, hx0.2.2.1, hx.2.2.2.2.1.cd, s1.there X0.warmed.alike hh0, hz⟩)
  obtain ⟨rfl, q2⟩ := E2
  have hh2 := q2.trans hh0
  have hx2 := hx.mv X2.warmed.alike hh2
  obtain ⟨-, k1, k2⟩ | ⟨k0, -⟩ := hx.2.2.2.2.1
  · have c3 : Steps p.tables e below (s₁.setTop (entryFrame m #[.ref x, .int (Int32.ofNat i)] 2)) (T2.setTop (mkF m 8 #[.val (.ref x), .val (.int (Int32.ofNat i))] [.ref x])) := Steps.trans g2 (by
      refine XS.ifNo X2.here hexec rfl (hb hbytes d4) rfl (i0_eq_f (by decide)) ?_
      refine XS.aloadN X2.here hexec rfl (hb hbytes d7) rfl rfl ?_
      exact Steps.refl _)
    obtain ⟨T4, X4, q4, st4⟩ := X2.hget hexec hown (wk W (.fieldLink "java/lang/String" 9 "java/lang/String" "value" "[B")) hx2.2.1 (g := (mkF m 8 #[.val (.ref x), .val (.int (Int32.ofNat i))] [.ref x])) rfl (rest := []) rfl (hb hbytes d8)
    have hh4 := q4.trans hh2
    have c5 : Steps p.tables e below (s₁.setTop (entryFrame m #[.ref x, .int (Int32.ofNat i)] 2)) (T4.setTop (mkF m 12 #[.val (.ref x), .val (.int (Int32.ofNat i))] [.int (Int32.ofNat i), .ref t])) := (c3.trans (st4 _ (Steps.refl _))).trans (by
      refine XS.iloadN X4.here hexec rfl (hb hbytes d11) rfl ?_
      exact Steps.refl _)
    obtain ⟨v6, T6, X6, E6, g6⟩ := X4.callS hexec (LChA.law l t V i (lo8 (f i)) fm) hown (wks W (staticW "java/lang/String" 495 LChA.yN)) (wk W LChA.tab) (W := 0) (Nat.le_of_ble_eq_true rfl) (Nat.le_of_ble_eq_true rfl) (Nat.le_refl _) (Nat.le_refl _) (g := (mkF m 12 #[.val (.ref x), .val (.int (Int32.ofNat i))] [.int (Int32.ofNat i), .ref t])) rfl (by rw [hml]; rfl) c5 (argsL := [.ref t, .int (Int32.ofNat i)]) (rest := []) rfl rfl (by show 2 * 0 + 0 ≤ _; decide) (hb hbytes d12) (⟨rfl, hx.2.2.2.1.mv X4.warmed.alike hh4, (k2 i hi).1, s3.there X4.warmed.alike hh4, rf⟩)
    obtain ⟨rfl, q6⟩ := E6
    rw [chr8_lo8 hr.1 (k2 i hi).2] at g6
    exact ⟨T6, some (.int (f i)), _, _, _, X6, rfl, rfl, rfl, (fun h => by cases h), ⟨rfl, q6.trans hh4⟩, fun fs hl => Steps.trans g6 (X6.ireturnOut hexec hret (narrow_ch hr.1 hr.2) (Or.inr (Or.inr (Or.inr (Or.inl rfl)))) (hb hbytes d15) hl)⟩
  · exact absurd k0 (by decide)
theorem pays {l : Launch} {R : Room} {p : Program} {e : Env} {below : List Frame} {s : State} {sargs : Array Value} {len W : Nat} (x t : Addr) (V : Cell) (n : Nat) (f : Nat → Int32) (z : Int32) (fm : Value) (i : Nat) (htab : tab.before sargs s = true) (hfr : 4 ≤ R.frames) (hlo : W + 53 ≤ R.locals) :
    Back l R p e below s sargs yN len W (fun A₁ a₁ => A₁.cells + 0 ≤ R.cells ∧ A₁.slots + 0 ≤ R.slots ∧ P x t V n f z fm i a₁ A₁.U) (fun A₁ _ v₁ B₁ => E f i v₁ A₁.U B₁.U ∧ B₁.locs = A₁.locs ++ [] ∧ B₁.cells = A₁.cells + 0 ∧ B₁.slots = A₁.slots + 0) :=
  (law l x t V n f z fm i).pays htab hfr (by omega)
end ChN
end StrChars
namespace StrChars.Road
open Jvm Sem ClassFile Op Lib Jvm.Stand Jvm.Free Jvm.Free.XT
open Jvm.Lib.Cold (StaticIs)
/-- the words of String.charAt(int), the Latin-1 road alone -/
abbrev wordsChN : List Jvm.Cond := [.code ChN.yN ChN.yB 2 (some .char), .initialized ST, .fieldLink ST 9 ST "value" "[B", .fieldLink ST 38 ST "COMPACT_STRINGS" "Z", .fieldLink ST 15 ST "coder" "B", .code IsL.yN IsL.yB 1 (some .boolean), .methodLink ST 492 IsL.yN, .declares IsL.yN, .selects ST IsL.yN IsL.yN, .instanceMethod IsL.yN,
  .methodLink ST 495 LChA.yN, .static LChA.yN, .code LChA.yN LChA.yB 2 (some .char), .initialized "java/lang/StringLatin1", .methodLink "java/lang/StringLatin1" 9 JO.Str_checkIndex.yN, .static JO.Str_checkIndex.yN, .code JO.Str_checkIndex.yN JO.Str_checkIndex.yB 2 none,
  .fieldLink ST 1053 "jdk/internal/util/Preconditions" "SIOOBE_FORMATTER" "Ljava/util/function/BiFunction;", .methodLink ST 1059 JC.PreCheck.yN, .static JC.PreCheck.yN, .code JC.PreCheck.yN JC.PreCheck.yB 3 (some .int), .initialized "jdk/internal/util/Preconditions"]
theorem tabChN_of {a : Array Value} {s : State} (h : ∀ w ∈ wordsChN, w.before a s = true) : ChN.tab.before a s = true := by
  have hp : JC.PreCheck.tab.before a s = true := unparts (wk h (.code JC.PreCheck.yN JC.PreCheck.yB 3 (some .int))) (wks h (.initialized JC.PreCheck.yN.cls :: JC.PreCheck.site))
  have qk := consq hp h
  have hk : JO.Str_checkIndex.tab.before a s = true := unparts (wk qk (.code JO.Str_checkIndex.yN JO.Str_checkIndex.yB 2 none)) (wks qk (.initialized JO.Str_checkIndex.yN.cls :: JO.Str_checkIndex.site))
  have ql := consq hk h
  have hl : LChA.tab.before a s = true := unparts (wk ql (.code LChA.yN LChA.yB 2 (some .char))) (wks ql (.initialized LChA.yN.cls :: LChA.site))
  have hi : IsL.tab.before a s = true := unparts (wk h (.code IsL.yN IsL.yB 1 (some .boolean))) (wks h (.initialized IsL.yN.cls :: IsL.site))
  have q := consq hi (consq hl h)
  exact unparts (wk q (.code ChN.yN ChN.yB 2 (some .char))) (wks q (.initialized ChN.yN.cls :: ChN.site))
theorem movedChN {Z s : State} {a0 args : Array Value} (hZ : Z.Warmed39 s.vm) (hw : ∀ d ∈ wordsChN, d.before a0 Z = true) : ∀ d ∈ wordsChN, d.before args s = true := fun d hd => by
  have t : ∀ d ∈ wordsChN, (d.onTables && d.keepsFace) = true := by decide +kernel
  exact RoadKit.mv hZ (hw d hd) (t d hd)
/-- **charAt(i) OF A LATIN-1 STRING**, i < n: the char -/
theorem chN {p : Program} {l : Launch} {e : Env} {R : Room} {s : State} {args : Array Value} {below : List Frame} {len W : Nat} {Z : State} {a0 : Array Value} {h : Heap} (hZ : Z.Warmed39 s.vm) (hw : ∀ d ∈ wordsChN, d.before a0 Z = true) {kI : Nat} (wi : (Jvm.Cond.instantiable ST kI).before a0 Z = true)
    {x t : Addr} {kb : ClassId} {cs : List Int32} {N2 z : Int32} {vs : List Value} {fm : Value} {i : Nat} {j : Int32} (E : RoadKit.Exa Z h x ST) (V : RoadKit.Fld Z h x ST "value" "[B" (.ref t)) (C : RoadKit.Fld Z h x ST "coder" "B" (.int 0)) (K : RoadKit.Arv Z h t kb .byte N2 vs (.int 0)) (hc : CodA cs 0 N2 vs) (hb : ∀ c ∈ cs, ¬ c < 0 ∧ ¬ (65535 : Int32) < c)
    (S : RoadKit.Sta Z h ST "COMPACT_STRINGS" "Z" (.int z)) (hz : ¬ z = 0) (F : RoadKit.Sta Z h "jdk/internal/util/Preconditions" "SIOOBE_FORMATTER" "Ljava/util/function/BiFunction;" fm) (rf : fm.isRef = true) (l2 : cs.length ≤ 4000) (hi : i < cs.length) (hj : j = Int32.ofNat i) (hfr : 4 ≤ R.frames) (hlo : W + 53 ≤ R.locals) :
    Back l R p e below s args (⟨"java/lang/String", "charAt", "(I)C"⟩ : MethodName) len W (fun P a => a = #[.ref x, .int j] ∧ P.U.heap = h ∧ P.cells + 0 ≤ R.cells ∧ P.slots + 0 ≤ R.slots)
      (fun P _ v B => ∃ L, (v = some (.int (cs.getD i 0)) ∧ L = [] ∧ B.U.heap = h) ∧ B.locs = P.locs ++ L ∧ B.cells = P.cells + 0 ∧ B.slots = P.slots + 0) := by
  subst hj
  intro m meth c P g ig mk a X hg hsize hdg hW hn hp'
  obtain ⟨rfl, rfl, r1, r2⟩ := hp'
  have al : Z.vm.Alike P.U.vm := hZ.alike.trans X.warmed.alike
  obtain ⟨A, hx⟩ := txt_of wi al E V C K hc hb l2
  obtain ⟨v, B, X', ⟨⟨hv, hh⟩, hl, hk, hs⟩, st⟩ := ChN.pays x t A cs.length (fun j => cs.getD j 0) z fm i (tabChN_of (movedChN hZ hw)) hfr hlo m meth c P g ig mk _ X hg hsize hdg hW hn ⟨r1, r2, rfl, hx, hi, sta_is al S, hz, sta_is al F, rf⟩
  exact ⟨v, B, X', ⟨[], ⟨hv, rfl, hh⟩, hl, hk, hs⟩, st⟩
/-- what backV says of its String, as the contracts of this text ask it: cs's low bytes, coder 0 -/
theorem codOf {cs : List Int32} {n : Nat} (hn : cs.length = n) (hb : ∀ c ∈ cs, ¬ 255 < c) : CodA cs 0 (Int32.ofNat n) ((cs.map lo8).map Value.int) := Or.inl ⟨rfl, by rw [hn], by simp [List.map_map, Function.comp_def], hb⟩
end StrChars.Road
end Jvm.Pilot.@@N@@
namespace Jvm.Pilot.@@N@@
open Jvm Jvm.ClassFile Sem Op Lib Jvm.Free Jvm.Stand Jvm.LawKit Jvm.RoadKit Bundle Jvm.OwnK
/-! Strings whose chars are below 256, own text over the pasted laws -/
def Str (Z : State) (h : Heap) (x : Addr) (cs : List Int32) : Prop :=
  Exa Z h x "java/lang/String" ∧ Fld Z h x "java/lang/String" "coder" "B" (.int 0) ∧ (∃ (b : Addr) (k : ClassId), Fld Z h x "java/lang/String" "value" "[B" (.ref b) ∧ Arv Z h b k .byte (Int32.ofNat cs.length) ((cs.map StrChars.lo8).map Value.int) (.int 0)) ∧ (∀ c ∈ cs, ¬ c < 0 ∧ ¬ (255 : Int32) < c) ∧ cs.length ≤ 4000
section Strs
variable {Z : State} {EL : List (String × Nat)} {nI : Bool} {a0 : Array Value} {l : Launch} {R : Room} {W : List Addr} {h h' : Heap} {Wt : Nat} {x b : Addr} {cs ds : List Int32} {z : Int32}
theorem Str.ext (F : Str Z h x cs) (E : Ext h h') : Str Z h' x cs := by
  obtain ⟨f1, f2, ⟨b, k, f3, f4⟩, f5⟩ := F
  exact ⟨f1.ext E, f2.ext E, ⟨b, k, f3.ext E, f4.ext E⟩, f5⟩
theorem Str.keep1 {a : Addr} {C : String} {n : Nat} (F : Str Z h x cs) (K : Keep h h' [a]) (E : Exa Z h a C) (wi : (Jvm.Cond.instantiable C n).before a0 Z = true) (hC : C ≠ "java/lang/String") : Str Z h' x cs := by
  obtain ⟨f1, f2, ⟨b, k, f3, f4⟩, f5⟩ := F
  have n1 : x ∉ [a] := ninS (f1.ne E (Ne.symm hC)) nin0
  have n2 : b ∉ [a] := ninS (E.neArv f4 wi).symm nin0
  exact ⟨f1.keep K, f2.keep K n1, ⟨b, k, f3.keep K n1, f4.keep K n2⟩, f5⟩
theorem Str.lt (F : Str Z h x cs) : x < h.size := F.1.lt
theorem up255 (hp : ∀ c ∈ cs, ¬ c < 0 ∧ ¬ (255 : Int32) < c) : ∀ c ∈ cs, ¬ c < 0 ∧ ¬ (65535 : Int32) < c := fun c hc => ⟨(hp c hc).1, fun q => (hp c hc).2 (Int32.lt_trans (by decide) q)⟩
theorem cal_len (hln : ∀ d ∈ StrChars.Road.wordsLen, d.before a0 Z = true) (wi : (Jvm.Cond.instantiable "java/lang/String" 4).before a0 Z = true) (F : Str Z h x cs) (O2 : Sta Z Z.heap "java/lang/String" "COMPACT_STRINGS" "Z" (.int z)) (P5 : ¬ z = 0) (hfr : 2 ≤ R.frames) (hlo : Wt + 25 ≤ R.locals) :
    Cal Z EL nI a0 l R ⟨"java/lang/String", "length", "()I"⟩ 3 Wt #[.ref x] h W 0 0 (fun v h' => h' = h ∧ v = some (.int (Int32.ofNat cs.length))) := by
  obtain ⟨f1, f2, ⟨b, k, f3, f4⟩, f5, f6⟩ := F
  exact Cal.of_back (Qz := fun v h' Lo => v = some (.int (Int32.ofNat cs.length)) ∧ Lo = [] ∧ h' = h) (fun p e bl s as hZ hO => StrChars.Road.lenW (W := Wt) hZ hln wi f1 f3 f2 f4 (StrChars.Road.codOf rfl fun c hc => (f5 c hc).2) (up255 f5) (O2.ext hO) P5 f6 hfr hlo)
    (fun v h' Lo q => ⟨⟨q.2.2, q.1⟩, by rw [q.2.1]; exact Fr.nil _, [], by rw [q.2.2]; exact Keep.refl _ _, fun _ q => nomatch q⟩)
theorem cal_chr (hch : ∀ d ∈ StrChars.Road.wordsChN, d.before a0 Z = true) (wi : (Jvm.Cond.instantiable "java/lang/String" 4).before a0 Z = true) (F : Str Z h x cs) (O2 : Sta Z Z.heap "java/lang/String" "COMPACT_STRINGS" "Z" (.int z)) (P5 : ¬ z = 0) {fm : Value} (O4 : Sta Z Z.heap "jdk/internal/util/Preconditions" "SIOOBE_FORMATTER" "Ljava/util/function/BiFunction;" fm) (rf : fm.isRef = true)
    {i : Nat} {j : Int32} (hi : i < cs.length) (hj : j = Int32.ofNat i) (hfr : 4 ≤ R.frames) (hlo : Wt + 53 ≤ R.locals) :
    Cal Z EL nI a0 l R ⟨"java/lang/String", "charAt", "(I)C"⟩ 3 Wt #[.ref x, .int j] h W 0 0 (fun v h' => h' = h ∧ v = some (.int (cs.getD i 0))) := by
  obtain ⟨f1, f2, ⟨b, k, f3, f4⟩, f5, f6⟩ := F
  exact Cal.of_back (Qz := fun v h' Lo => v = some (.int (cs.getD i 0)) ∧ Lo = [] ∧ h' = h) (fun p e bl s as hZ hO => StrChars.Road.chN (W := Wt) hZ hch wi f1 f3 f2 f4 (StrChars.Road.codOf rfl fun c hc => (f5 c hc).2) (up255 f5) (O2.ext hO) P5 (O4.ext hO) rf f6 hi hj hfr hlo)
    (fun v h' Lo q => ⟨⟨q.2.2, q.1⟩, by rw [q.2.1]; exact Fr.nil _, [], by rw [q.2.2]; exact Keep.refl _ _, fun _ q => nomatch q⟩)
/-- new String(char[]), at least one char -/
theorem cal_new1 (hws : ∀ d ∈ StrChars.Road.words, d.before a0 Z = true) (wi : (Jvm.Cond.instantiable "java/lang/String" 4).before a0 Z = true) {v0 c0 d : Value} {kC : ClassId} {N : Int32} (hx0 : Z.heap.size ≤ x) (hm : x ∈ W) (E : Exa Z h x "java/lang/String") (V : Fld Z h x "java/lang/String" "value" "[B" v0) (C : Fld Z h x "java/lang/String" "coder" "B" c0)
    (A : Arv Z h b kC .char N (cs.map Value.int) d) (O2 : Sta Z Z.heap "java/lang/String" "COMPACT_STRINGS" "Z" (.int z)) (P5 : ¬ z = 0) (hN : N = Int32.ofNat cs.length) (l0 : 0 < cs.length) (l2 : cs.length ≤ 4000) (hp : ∀ c ∈ cs, ¬ c < 0 ∧ ¬ (255 : Int32) < c) (hfr : 4 ≤ R.frames) (hlo : Wt + 65 ≤ R.locals) :
    Cal Z EL nI a0 l R ⟨"java/lang/String", "<init>", "([C)V"⟩ 3 Wt #[.ref x, .ref b] h W 1 cs.length (fun v h' => v = none ∧ Str Z h' x cs ∧ Keep h h' [x]) := by
  refine Cal.of_back (Qz := StrChars.Road.QV Z x N (cs.map fun c => c.toInt8.toInt32) h Z.heap.size) (fun p e bl s as hZ hO => StrChars.Road.backV (W := Wt) (n0 := Z.heap.size) hZ hws wi hx0 hO.1 E V C A (O2.ext hO) P5 rfl hN l0 l2 hp rfl hfr hlo) (fun v h' Lo q => ?_)
  obtain ⟨q1, q2, q3, q4, q5, t, kb, -, -, -, q6, q7⟩ := q
  refine ⟨⟨q1, ⟨q4, q5, ⟨t, kb, q6, ?_⟩, hp, l2⟩, q3⟩, q2, [x], q3, fun y hy => ?_⟩
  · rw [hN] at q7; exact q7
  · cases List.mem_singleton.mp hy; exact ⟨hx0, sfW hm⟩
end Strs
end Jvm.Pilot.@@N@@
namespace Jvm.Pilot.@@N@@
open Jvm Jvm.ClassFile Sem Op Lib Jvm.Free Jvm.Stand Jvm.LawKit Jvm.RoadKit Bundle Jvm.OwnK Jvm.OwnH Jvm.Pilot.@@N@@.Jvm.D
def Env1 (Z : State) (a0 : Array Value) (z0 : Int32) (fm : Value) : Prop := (∀ d ∈ tables_1, d.before a0 Z = true) ∧ EW Z a0 consts_1 ∧ Sta Z Z.heap "java/lang/String" "COMPACT_STRINGS" "Z" (.int z0) ∧ ¬ z0 = 0 ∧ Sta Z Z.heap "jdk/internal/util/Preconditions" "SIOOBE_FORMATTER" "Ljava/util/function/BiFunction;" fm ∧ fm.isRef = true
theorem g_lenW {Z : State} {a0 : Array Value} (hw : ∀ d ∈ tables_1, d.before a0 Z = true) : ∀ d ∈ StrChars.Road.wordsLen, d.before a0 Z = true := fun d hd => hw d ((by decide +kernel : ∀ d ∈ StrChars.Road.wordsLen, d ∈ tables_1) d hd)
theorem g_chN {Z : State} {a0 : Array Value} (hw : ∀ d ∈ tables_1, d.before a0 Z = true) : ∀ d ∈ StrChars.Road.wordsChN, d.before a0 Z = true := fun d hd => hw d ((by decide +kernel : ∀ d ∈ StrChars.Road.wordsChN, d ∈ tables_1) d hd)
theorem g_backV {Z : State} {a0 : Array Value} (hw : ∀ d ∈ tables_1, d.before a0 Z = true) : ∀ d ∈ StrChars.Road.words, d.before a0 Z = true := fun d hd => hw d ((by decide +kernel : ∀ d ∈ StrChars.Road.words, d ∈ tables_1) d hd)
theorem g_wS {Z : State} {a0 : Array Value} (hw : ∀ d ∈ tables_1, d.before a0 Z = true) : ∀ d ∈ Bundle.stringAtoms, d.before a0 Z = true := fun d hd => hw d ((by decide +kernel : ∀ d ∈ Bundle.stringAtoms, d ∈ tables_1) d hd)
theorem pn_str : plainName "java/lang/String" = true := by first | (simp [plainName, overriddenIn]; done) | decide +kernel
theorem pd_s1 : parseMethodDescriptor "([C)V" = some ⟨[(.array .char)], none⟩ := by decide +kernel
theorem pn_law : plainName "com/example/libidem/libidem/http/KeyHeaderParsePinLaw" = true := by first | (simp [plainName, overriddenIn]; done) | decide +kernel
theorem pn_kh : plainName "com/example/libidem/libidem/http/KeyHeader" = true := by first | (simp [plainName, overriddenIn]; done) | decide +kernel
theorem pd_v : parseMethodDescriptor "()V" = some ⟨[], none⟩ := by decide +kernel
theorem pd_asb : parseMethodDescriptor "(I)V" = some ⟨[.int], none⟩ := by decide +kernel
theorem pd_cod : parseMethodDescriptor "()B" = some ⟨[], some .byte⟩ := by decide +kernel
theorem pd_inf : parseMethodDescriptor "(Ljava/lang/String;)V" = some ⟨[(.object "java/lang/String")], none⟩ := by decide +kernel
theorem pd_gb : parseMethodDescriptor "([BIB)V" = some ⟨[(.array .byte), .int, .byte], none⟩ := by decide +kernel
theorem pd_put : parseMethodDescriptor "(ILjava/lang/String;)V" = some ⟨[.int, (.object "java/lang/String")], none⟩ := by decide +kernel
theorem pd_aap : parseMethodDescriptor "(Ljava/lang/String;)Ljava/lang/AbstractStringBuilder;" = some ⟨[(.object "java/lang/String")], some (.object "java/lang/AbstractStringBuilder")⟩ := by decide +kernel
theorem pd_sap : parseMethodDescriptor "(Ljava/lang/String;)Ljava/lang/StringBuilder;" = some ⟨[(.object "java/lang/String")], some (.object "java/lang/StringBuilder")⟩ := by decide +kernel
theorem pd_gv : parseMethodDescriptor "()[B" = some ⟨[], some (.array .byte)⟩ := by decide +kernel
theorem pd_len : parseMethodDescriptor "()I" = some ⟨[], some .int⟩ := by decide +kernel
theorem pd_z : parseMethodDescriptor "()Z" = some ⟨[], some .boolean⟩ := by decide +kernel
theorem pd_ck : parseMethodDescriptor "(II)V" = some ⟨[.int, .int], none⟩ := by decide +kernel
theorem pd_min : parseMethodDescriptor "(II)I" = some ⟨[.int, .int], some .int⟩ := by decide +kernel
theorem pd_cor : parseMethodDescriptor "([BII)[B" = some ⟨[(.array .byte), .int, .int], some (.array .byte)⟩ := by decide +kernel
theorem pd_sv : parseMethodDescriptor "(Ljava/lang/AbstractStringBuilder;Ljava/lang/Void;)V" = some ⟨[(.object "java/lang/AbstractStringBuilder"), (.object "java/lang/Void")], none⟩ := by decide +kernel
theorem pd_sb1 : parseMethodDescriptor "(Ljava/lang/StringBuilder;)V" = some ⟨[(.object "java/lang/StringBuilder")], none⟩ := by decide +kernel
theorem pd_ts : parseMethodDescriptor "()Ljava/lang/String;" = some ⟨[], some (.object "java/lang/String")⟩ := by decide +kernel
theorem pn_asb : plainName "java/lang/AbstractStringBuilder" = true := by first | (simp [plainName, overriddenIn]; done) | decide +kernel
theorem pn_sb : plainName "java/lang/StringBuilder" = true := by first | (simp [plainName, overriddenIn]; done) | decide +kernel
theorem pn_ar : plainName "java/util/Arrays" = true := by first | (simp [plainName, overriddenIn]; done) | decide +kernel
def SBo (Z : State) (h : Heap) (b va : Addr) (k : ClassId) (cap : Nat) (cs : List Int32) : Prop :=
  Exa Z h b "java/lang/StringBuilder" ∧ Fld Z h b "java/lang/AbstractStringBuilder" "value" "[B" (.ref va) ∧ Fld Z h b "java/lang/AbstractStringBuilder" "coder" "B" (.int 0) ∧ Fld Z h b "java/lang/AbstractStringBuilder" "count" "I" (.int (Int32.ofNat cs.length)) ∧ Arv Z h va k .byte (Int32.ofNat cap) ((cs.map StrChars.lo8).map Value.int) (.int 0) ∧ Z.heap.size ≤ b ∧ Z.heap.size ≤ va ∧ cs.length ≤ cap ∧ cap ≤ 4000 ∧ (∀ c ∈ cs, ¬ c < 0 ∧ ¬ (255 : Int32) < c)
theorem SBo.ext {Z : State} {h h' : Heap} {b va : Addr} {k : ClassId} {cap : Nat} {cs : List Int32} (F : SBo Z h b va k cap cs) (E : Ext h h') : SBo Z h' b va k cap cs := by
  obtain ⟨f1, f2, f3, f4, f5, r⟩ := F
  exact ⟨f1.ext E, f2.ext E, f3.ext E, f4.ext E, f5.ext E, r⟩
theorem lens (cs : List Int32) : ((cs.map StrChars.lo8).map Value.int).length = cs.length := by simp
theorem pd_cfb : parseMethodDescriptor "(III)V" = some ⟨[.int, .int, .int], none⟩ := by decide +kernel
theorem pd_ftx : parseMethodDescriptor "(IIILjava/util/function/BiFunction;)I" = some ⟨[.int, .int, .int, (.object "java/util/function/BiFunction")], some .int⟩ := by decide +kernel
theorem pd_nst : parseMethodDescriptor "([BII)Ljava/lang/String;" = some ⟨[(.array .byte), .int, .int], some (.object "java/lang/String")⟩ := by decide +kernel
theorem pd_sbb : parseMethodDescriptor "([BB)V" = some ⟨[(.array .byte), .byte], none⟩ := by decide +kernel
theorem pd_sub : parseMethodDescriptor "(II)Ljava/lang/String;" = some ⟨[.int, .int], some (.object "java/lang/String")⟩ := by decide +kernel
theorem pd_sw1 : parseMethodDescriptor "(Ljava/lang/String;)Z" = some ⟨[(.object "java/lang/String")], some .boolean⟩ := by decide +kernel
theorem pd_sw2 : parseMethodDescriptor "(Ljava/lang/String;I)Z" = some ⟨[(.object "java/lang/String"), .int], some .boolean⟩ := by decide +kernel
theorem pd_mm : parseMethodDescriptor "([BI[BII)I" = some ⟨[(.array .byte), .int, (.array .byte), .int, .int], some .int⟩ := by decide +kernel
theorem pd_aac : parseMethodDescriptor "(C)Ljava/lang/AbstractStringBuilder;" = some ⟨[.char], some (.object "java/lang/AbstractStringBuilder")⟩ := by decide +kernel
theorem pd_sac : parseMethodDescriptor "(C)Ljava/lang/StringBuilder;" = some ⟨[.char], some (.object "java/lang/StringBuilder")⟩ := by decide +kernel
theorem pd_cz : parseMethodDescriptor "(C)Z" = some ⟨[.char], some .boolean⟩ := by decide +kernel
theorem pd_ch : parseMethodDescriptor "(I)C" = some ⟨[.int], some .char⟩ := by decide +kernel
theorem pn_pc : plainName "jdk/internal/util/Preconditions" = true := by first | (simp [plainName, overriddenIn]; done) | decide +kernel
theorem pn_as : plainName "jdk/internal/util/ArraysSupport" = true := by first | (simp [plainName, overriddenIn]; done) | decide +kernel
theorem pn_sl : plainName "java/lang/StringLatin1" = true := by first | (simp [plainName, overriddenIn]; done) | decide +kernel
theorem cp_sub {vs : List Value} {f t : Nat} (d : Value) (h : f ≤ t) (ht : t ≤ vs.length) (i : Nat) : ((vs.take t).drop f).getD i d = ((List.replicate (t - f) d).take 0 ++ (List.range (t - f)).map (fun i => vs.getD (f + i) d) ++ (List.replicate (t - f) d).drop (0 + (t - f))).getD i d := by
  have e2 : (List.range (t - f)).map (fun i => vs.getD (f + i) d) = (vs.take t).drop f := by
    refine List.ext_getElem (by simp only [List.length_map, List.length_range, List.length_drop, List.length_take]; omega) fun j h1 h2 => ?_
    have hj : j < t - f := by simpa using h1
    simp only [List.getElem_map, List.getElem_range, List.getElem_drop, List.getElem_take]
    rw [List.getD_eq_getElem?_getD, List.getElem?_eq_getElem (by omega)]; rfl
  rw [e2]; simp
theorem min_val {a b : Nat} (h : b ≤ a) (ha : a ≤ 4000) : (if Int32.ofNat b < Int32.ofNat a then Int32.ofNat b else Int32.ofNat a) = Int32.ofNat b := by
  by_cases q : b < a
  · rw [if_pos ((ofN_lt2 (by omega) ha).mpr q)]
  · rw [if_neg (fun z => q ((ofN_lt2 (by omega) ha).mp z)), show b = a by omega]
theorem getD_lo8 (cs : List Int32) (i : Nat) : ((cs.map StrChars.lo8).map Value.int).getD i (.int 0) = .int (StrChars.lo8 (cs.getD i 0)) := by
  simp only [List.getD_eq_getElem?_getD, List.getElem?_map]
  cases cs[i]? <;> rfl
theorem lo8_eq {c d : Int32} (h : ¬ c < 0 ∧ ¬ (255 : Int32) < c) (g : ¬ d < 0 ∧ ¬ (255 : Int32) < d) : StrChars.lo8 c = StrChars.lo8 d ↔ c = d := by
  refine ⟨fun z => ?_, fun z => by rw [z]⟩
  have a := c_i2b c; have b := c_i2b d
  have z' : c.toInt8.toInt32.toInt = d.toInt8.toInt32.toInt := congrArg Int32.toInt z
  obtain ⟨h1, h2⟩ := h; obtain ⟨g1, g2⟩ := g
  have e2 : (255 : Int32).toInt = 255 := rfl
  rw [Int32.lt_iff_toInt_lt, tI0] at h1 g1
  rw [Int32.lt_iff_toInt_lt, e2] at h2 g2
  apply Int32.toInt_inj.mp; omega
theorem snoc_pad {vs : List Value} {n : Nat} (d v : Value) (h : vs.length < n) (j : Nat) : (vs ++ [v]).getD j d = (setv vs n vs.length d v).getD j d := by
  unfold setv
  simp only [List.getD_eq_getElem?_getD]
  rcases Nat.lt_trichotomy j vs.length with q | q | q
  · rw [List.getElem?_append_left q, List.getElem?_set_ne (by omega), List.getElem?_append_left q]
  · subst q
    rw [List.getElem?_append_right (Nat.le_refl _), List.getElem?_set_self (by rw [List.length_append, List.length_replicate]; omega), Nat.sub_self]; rfl
  · rw [List.getElem?_eq_none (by rw [List.length_append]; simp; omega), List.getElem?_set_ne (by omega), List.getElem?_append_right (by omega), List.getElem?_replicate]
    split <;> rfl
theorem lo8_lo8 (c : Int32) : nar .byte (c.toInt8.toInt32) = StrChars.lo8 c := by
  show c.toInt8.toInt32.toInt8.toInt32 = c.toInt8.toInt32
  have a := c_i2b c; have b := c_i2b c.toInt8.toInt32
  apply Int32.toInt_inj.mp; omega
theorem str_map (cs : List Int32) (f t : Nat) : ((((cs.take t).drop f).map StrChars.lo8).map Value.int) = (((cs.map StrChars.lo8).map Value.int).take t).drop f := by
  simp only [List.map_drop, List.map_take]
theorem mem_cut {cs : List Int32} {f t : Nat} {x : Int32} (h : x ∈ (cs.take t).drop f) : x ∈ cs := List.mem_of_mem_take (List.mem_of_mem_drop h)
theorem pd_prt : parseMethodDescriptor "(I)C" = some ⟨[.int], some .char⟩ := by decide +kernel
theorem pd_blk : parseMethodDescriptor "(II)C" = some ⟨[.int, .int], some .char⟩ := by decide +kernel
theorem pd_pt : parseMethodDescriptor "([CIZCZ)I" = some ⟨[(.array .char), .int, .boolean, .char, .boolean], some .int⟩ := by decide +kernel
theorem pd_ss : parseMethodDescriptor "(Ljava/lang/String;)Ljava/lang/String;" = some ⟨[(.object "java/lang/String")], some (.object "java/lang/String")⟩ := by decide +kernel
theorem set_pad2 {vs : List Value} {n i : Nat} (d v : Value) (hi : i < vs.length) (j : Nat) : (vs.set i v).getD j d = (setv vs n i d v).getD j d := by
  unfold setv
  simp only [List.getD_eq_getElem?_getD, List.getElem?_set, List.length_append, List.length_replicate]
  by_cases q : i = j
  · rw [if_pos q, if_pos q, if_pos hi, if_pos (by omega)]
  · rw [if_neg q, if_neg q]
    rcases Nat.lt_or_ge j vs.length with r | r
    · rw [List.getElem?_append_left r]
    · rw [List.getElem?_append_right r, List.getElem?_eq_none r, List.getElem?_replicate]
      split <;> rfl
def prt (c : Int32) : Prop := ¬ c < 32 ∧ ¬ (126 : Int32) < c
theorem prt_in {c : Int32} (h : prt c) : ¬ c < 0 ∧ ¬ (255 : Int32) < c := by
  obtain ⟨h1, h2⟩ := h
  have e1 : (32 : Int32).toInt = 32 := rfl
  have e2 : (126 : Int32).toInt = 126 := rfl
  have e3 : (255 : Int32).toInt = 255 := rfl
  rw [Int32.lt_iff_toInt_lt, e1] at h1; rw [Int32.lt_iff_toInt_lt, e2] at h2
  rw [Int32.lt_iff_toInt_lt, Int32.lt_iff_toInt_lt, tI0, e3]; omega
def bok (c : Int32) : Prop := ¬ c = 32 ∧ ¬ c = 34 ∧ ¬ c = 92
theorem bok_bl {c : Int32} (h : bok c) (p : prt c) : ¬ bl c := fun z => z.elim h.1 (fun e => p.1 (by rw [e]; decide))
theorem body_in {q : Int32} {ks : List Int32} (h : ∀ c ∈ ks, prt c) : ∀ c ∈ body q ks, ¬ c < 0 ∧ ¬ (255 : Int32) < c := by
  have en : ∀ ks : List Int32, (∀ c ∈ ks, prt c) → ∀ c ∈ enc q ks, ¬ c < 0 ∧ ¬ (255 : Int32) < c := by
    intro ks
    induction ks with
    | nil => intro _ c hc; cases hc
    | cons a k ih =>
      intro hk c hc
      rcases List.mem_append.mp (show c ∈ e1 q a ++ enc q k from hc) with r | r
      · have pa := prt_in (hk a (List.mem_cons_self ..))
        unfold e1 at r
        split at r
        · cases List.mem_singleton.mp r; exact pa
        · split at r
          · rcases List.mem_cons.mp r with rfl | r
            · decide
            · cases List.mem_singleton.mp r; exact pa
          · cases List.mem_singleton.mp r; exact pa
      · exact ih (fun c hc => hk c (List.mem_cons_of_mem _ hc)) c r
  intro c hc
  unfold body at hc
  split at hc
  · exact prt_in (h c hc)
  · rcases List.mem_cons.mp hc with rfl | hc
    · decide
    · rcases List.mem_append.mp hc with r | r
      · exact en ks h c r
      · cases List.mem_singleton.mp r; decide
theorem rem_le {x : Int32} {p : Nat} (hp : p ≤ 8) : ∃ r : Nat, (x &&& 15) % (Int32.ofNat p + 1) = Int32.ofNat r ∧ r ≤ p := by
  have q1 := c_and x 15 (by decide)
  have e : (Int32.ofNat p + 1).toInt = ((p + 1 : Nat) : Int) := by rw [show Int32.ofNat p + (1 : Int32) = Int32.ofNat (p + 1) from ofN_add (n := p) (m := 1) (by omega), ofN (by omega)]
  have q2 := (c_irem (x &&& 15) (Int32.ofNat p + 1) (p + 1) (by rw [e]; omega)).1 q1.1
  have b1 := Int.emod_nonneg (x &&& 15).toInt (show ((p : Int) + 1) ≠ 0 by omega)
  have b2 := Int.emod_lt_of_pos (x &&& 15).toInt (show (0 : Int) < (p : Int) + 1 by omega)
  rw [← q2] at b1 b2
  refine ⟨((x &&& 15) % (Int32.ofNat p + 1)).toInt.toNat, ?_, by omega⟩
  apply Int32.toInt_inj.mp
  rw [ofN (by omega)]; omega
set_option maxRecDepth 65536 in
set_option maxHeartbeats 40000000 in
theorem c_asb {l : Launch} {Z : State} {a0 : Array Value} {z0 : Int32} {fm : Value} (G : Env1 Z a0 z0 fm) (x0 : Addr) (h : Heap) (hx0 : Z.heap.size ≤ x0) (X : Exa Z h x0 "java/lang/StringBuilder") {u1 u2 : Value} (Fs : Fld Z h x0 "java/lang/AbstractStringBuilder" "value" "[B" u1 ∧ Fld Z h x0 "java/lang/AbstractStringBuilder" "coder" "B" u2 ∧ Fld Z h x0 "java/lang/AbstractStringBuilder" "count" "I" (.int 0)) : Ctr Z consts_1 true l [] (⟨"java/lang/AbstractStringBuilder", "<init>", "(I)V"⟩ : MethodName) jdk_68_method_2_code 2 none ({ frames := 1, cells := 1, slots := 16, locals := 12 } : Room) #[(.ref x0), (.int (16 : Int32))] h [] (fun v h' => v = none ∧ ∃ va k, SBo Z h' x0 va k 16 [] ∧ h.size ≤ va ∧ va < h'.size ∧ Keep h h' [x0]) := by
  obtain ⟨hw, hEL, O2, P5, O4⟩ := id G
  refine Ctr.of_run (a0 := a0) (L0 := #[.val (.ref x0), .val (.int (16 : Int32))]) (plainFor_of_name pn_asb) hEL (by first | (simp [argsToLocals, Value.category, maxLocals]; done) | rfl) (fun K hK => ?_)
  obtain ⟨Fv, Fc, Fn⟩ := Fs
  have x0lt := X.lt
  refine Run.old (fun hO => ?_)
  refine Run.pure hK (seg := [(0, .aload_n 0, 1)]) (by decide +kernel) (pc' := 1) (L' := #[.val (.ref x0), .val (.int (16 : Int32))]) (S' := [(.ref x0)]) rfl ?_
  refine Run.initobj hK (index := 3) (hw _ (List.mem_of_getElem? (i := 155) rfl)) (hw _ (List.mem_of_getElem? (i := 29) rfl)) (hw _ (List.mem_of_getElem? (i := 30) rfl)) rfl (by decide +kernel) (by decide) (Wt := 0) (Nat.le_of_ble_eq_true rfl) (by decide) ?_
  refine Run.gets hK (index := 18) (hw _ (List.mem_of_getElem? (i := 156) rfl)) Via.refl (O2.ext hO) (by decide +kernel) ?_
  refine Run.ifz hK (cd := .eq) (o := 18) (by decide +kernel) (by decide) (pc' := 25) rfl (fun q => by replace q := (h_eq _ _).1 q; exact absurd q P5) (fun _ => ?_)
  refine Run.pure hK (seg := [(10, .aload_n 0, 1), (11, .iload_n 1, 1)]) (by decide +kernel) (pc' := 12) (L' := #[.val (.ref x0), .val (.int (16 : Int32))]) (S' := [(.int (16 : Int32)), (.ref x0)]) rfl ?_
  refine Run.newarr hK (aty := .byte) (hw _ (List.mem_of_getElem? (i := 36) rfl)) (by decide +kernel) (by decide) (cap := 16) (by decide) (by decide) (by decide) (by decide) (fun hr kr Er Ar => ?_)
  obtain ⟨ar, zr⟩ : ∃ z, z = h.size := ⟨_, rfl⟩
  rw [← zr]
  rw [← zr] at Ar
  have nr : ar ≠ x0 := fun z => absurd x0lt (by rw [← z, zr]; exact Nat.lt_irrefl _)
  replace Fv := Fv.ext Er
  replace Fc := Fc.ext Er
  replace Fn := Fn.ext Er
  replace X := X.ext Er
  refine Run.putf hK (index := 15) (host := "") (Or.inl (hw _ (List.mem_of_getElem? (i := 157) rfl))) Via.refl Fv X (Or.inl (hw _ (List.mem_of_getElem? (i := 158) rfl))) (hw _ (List.mem_of_getElem? (i := 144) rfl)) (ty := (.array .byte)) (by decide) rfl rfl hx0 (sfE X (by decide) (by decide)) (by decide +kernel) (fun h1 W1 => ?_)
  replace Fv := Fv.same W1
  replace Fc := Fc.other W1 (Or.inr (slot_ne (Or.inl (hw _ (List.mem_of_getElem? (i := 160) rfl))) (Or.inl (hw _ (List.mem_of_getElem? (i := 158) rfl))) (by decide) (by decide : parseFieldDescriptor "B" = some .byte) (by decide : parseFieldDescriptor "[B" = some (.array .byte))))
  replace Fn := Fn.other W1 (Or.inr (slot_ne (Or.inl (hw _ (List.mem_of_getElem? (i := 172) rfl))) (Or.inl (hw _ (List.mem_of_getElem? (i := 158) rfl))) (by decide) (by decide : parseFieldDescriptor "I" = some .int) (by decide : parseFieldDescriptor "[B" = some (.array .byte))))
  replace X := X.wr W1
  replace Ar := Ar.other W1 nr
  refine Run.pure hK (seg := [(17, .aload_n 0, 1), (18, .iconst 0, 1)]) (by decide +kernel) (pc' := 19) (L' := #[.val (.ref x0), .val (.int (16 : Int32))]) (S' := [(.int (0 : Int32)), (.ref x0)]) rfl ?_
  refine Run.putf hK (index := 22) (host := "") (Or.inl (hw _ (List.mem_of_getElem? (i := 159) rfl))) Via.refl Fc X (Or.inl (hw _ (List.mem_of_getElem? (i := 160) rfl))) (hw _ (List.mem_of_getElem? (i := 144) rfl)) (ty := .byte) (by decide) rfl rfl hx0 (sfE X (by decide) (by decide)) (by decide +kernel) (fun h2 W2 => ?_)
  replace Fv := Fv.other W2 (Or.inr (slot_ne (Or.inl (hw _ (List.mem_of_getElem? (i := 158) rfl))) (Or.inl (hw _ (List.mem_of_getElem? (i := 160) rfl))) (by decide) (by decide : parseFieldDescriptor "[B" = some (.array .byte)) (by decide : parseFieldDescriptor "B" = some .byte)))
  replace Fc := Fc.same W2
  replace Fn := Fn.other W2 (Or.inr (slot_ne (Or.inl (hw _ (List.mem_of_getElem? (i := 172) rfl))) (Or.inl (hw _ (List.mem_of_getElem? (i := 160) rfl))) (by decide) (by decide : parseFieldDescriptor "I" = some .int) (by decide : parseFieldDescriptor "B" = some .byte)))
  replace X := X.wr W2
  replace Ar := Ar.other W2 nr
  refine Run.pure hK (seg := [(22, .goto 16, 3)]) (by decide +kernel) (pc' := 38) (L' := #[.val (.ref x0), .val (.int (16 : Int32))]) (S' := []) rfl ?_
  exact Run.retv hK (by decide +kernel) (by decide) (by decide) ⟨rfl, ar, kr, ⟨X, Fv, Fc, Fn, Ar, hx0, (by rw [zr]; exact hO.1), Nat.zero_le _, by decide, (fun _ q => nomatch q)⟩, (by rw [zr]; exact Nat.le_refl _), Ar.lt, (((Keep.refl _ [x0]).ext Er).wr W1 (Or.inl (List.mem_singleton.mpr rfl))).wr W2 (Or.inl (List.mem_singleton.mpr rfl))⟩
set_option maxRecDepth 65536 in
set_option maxHeartbeats 40000000 in
theorem c_sbi {l : Launch} {Z : State} {a0 : Array Value} {z0 : Int32} {fm : Value} (G : Env1 Z a0 z0 fm) (x0 : Addr) (h : Heap) (hx0 : Z.heap.size ≤ x0) (X : Exa Z h x0 "java/lang/StringBuilder") {u1 u2 : Value} (Fs : Fld Z h x0 "java/lang/AbstractStringBuilder" "value" "[B" u1 ∧ Fld Z h x0 "java/lang/AbstractStringBuilder" "coder" "B" u2 ∧ Fld Z h x0 "java/lang/AbstractStringBuilder" "count" "I" (.int 0)) : Ctr Z consts_1 true l [] (⟨"java/lang/StringBuilder", "<init>", "()V"⟩ : MethodName) jdk_67_method_1_code 1 none ({ frames := 2, cells := 1, slots := 16, locals := 28 } : Room) #[(.ref x0)] h [] (fun v h' => v = none ∧ ∃ va k, SBo Z h' x0 va k 16 [] ∧ h.size ≤ va ∧ va < h'.size ∧ Keep h h' [x0]) := by
  obtain ⟨hw, hEL, O2, P5, O4⟩ := id G
  refine Ctr.of_run (a0 := a0) (L0 := #[.val (.ref x0)]) (plainFor_of_name pn_sb) hEL (by first | (simp [argsToLocals, Value.category, maxLocals]; done) | rfl) (fun K hK => ?_)
  refine Run.pure hK (seg := [(0, .aload_n 0, 1), (1, .bipush 16, 2)]) (by decide +kernel) (pc' := 3) (L' := #[.val (.ref x0)]) (S' := [(.int (16 : Int32)), (.ref x0)]) rfl ?_
  refine Run.special hK (index := 1) (y := (⟨"java/lang/AbstractStringBuilder", "<init>", "(I)V"⟩ : MethodName)) (Wt := 0) (kc := 1) (ks := 16) rfl (hw _ (List.mem_of_getElem? (i := 149) rfl)) (hw _ (List.mem_of_getElem? (i := 150) rfl)) (hw _ (List.mem_of_getElem? (i := 154) rfl)) (by decide) (a := x0) (W' := []) (fun _ q => nomatch q) (Ctr.cal (c_asb G x0 h hx0 X Fs) (hw _ (List.mem_of_getElem? (i := 154) rfl)) (hw _ (List.mem_of_getElem? (i := 153) rfl)) (by decide) (by decide)) rfl (argsL := [(.int (16 : Int32))]) (rest := []) (lenOf pd_asb rfl) rfl (Nat.le_of_ble_eq_true rfl) (by decide +kernel) (by decide) (by decide) (fun v1 h1 q1 n1 => ?_)
  obtain ⟨rfl, q⟩ := q1
  exact Run.retv hK (by decide +kernel) (by decide) (by decide) ⟨rfl, q⟩
set_option maxRecDepth 65536 in
set_option maxHeartbeats 40000000 in
theorem c_cod {l : Launch} {Z : State} {a0 : Array Value} {z0 : Int32} {fm : Value} (G : Env1 Z a0 z0 fm) (x : Addr) {cs : List Int32} (h : Heap) (F : Str Z h x cs) : Ctr Z consts_1 true l [] (⟨"java/lang/String", "coder", "()B"⟩ : MethodName) jdk_42_method_152_code 1 (some .byte) ({ frames := 0, cells := 0, slots := 0, locals := 0 } : Room) #[(.ref x)] h [] (fun v h' => h' = h ∧ v = some (.int 0)) := by
  obtain ⟨hw, hEL, O2, P5, O4⟩ := id G
  refine Ctr.of_run (a0 := a0) (L0 := #[.val (.ref x)]) (plainFor_of_name pn_str) hEL (by first | (simp [argsToLocals, Value.category, maxLocals]; done) | rfl) (fun K hK => ?_)
  obtain ⟨f1, f2, -⟩ := F
  refine Run.old (fun hO => ?_)
  refine Run.gets hK (index := 38) (hw _ (List.mem_of_getElem? (i := 31) rfl)) Via.refl (O2.ext hO) (by decide +kernel) ?_
  refine Run.ifz hK (cd := .eq) (o := 10) (by decide +kernel) (by decide) (pc' := 13) rfl (fun q => by replace q := (h_eq _ _).1 q; exact absurd q P5) (fun _ => ?_)
  refine Run.pure hK (seg := [(6, .aload_n 0, 1)]) (by decide +kernel) (pc' := 7) (L' := #[.val (.ref x)]) (S' := [(.ref x)]) rfl ?_
  refine Run.getf hK (index := 15) (host := "") (Or.inl (hw _ (List.mem_of_getElem? (i := 43) rfl))) Via.refl f2 (by decide +kernel) ?_
  refine Run.pure hK (seg := [(10, .goto 4, 3)]) (by decide +kernel) (pc' := 14) (L' := #[.val (.ref x)]) (S' := [(.int (0 : Int32))]) rfl ?_
  exact Run.retw hK (i := .ireturn) rfl (Or.inl ⟨rfl, Or.inr (Or.inr (Or.inl rfl)), _, rfl⟩) (by decide +kernel) (by decide) (by decide) ⟨rfl, rfl⟩
set_option maxRecDepth 65536 in
set_option maxHeartbeats 40000000 in
theorem c_ens {l : Launch} {Z : State} {a0 : Array Value} {z0 : Int32} {fm : Value} (G : Env1 Z a0 z0 fm) (x0 va : Addr) (m : Nat) {ds : List Int32} {k : ClassId} {cap : Nat} (h : Heap) (Sb : SBo Z h x0 va k cap ds) (hm : m ≤ cap) : Ctr Z consts_1 true l [] (⟨"java/lang/AbstractStringBuilder", "ensureCapacityInternal", "(I)V"⟩ : MethodName) jdk_68_method_9_code 3 none ({ frames := 0, cells := 0, slots := 0, locals := 0 } : Room) #[(.ref x0), (.int (Int32.ofNat m))] h [] (fun v h' => h' = h ∧ v = none) := by
  obtain ⟨hw, hEL, O2, P5, O4⟩ := id G
  refine Ctr.of_run (a0 := a0) (L0 := #[.val (.ref x0), .val (.int (Int32.ofNat m)), .unset]) (plainFor_of_name pn_asb) hEL (by first | (simp [argsToLocals, Value.category, maxLocals]; done) | rfl) (fun K hK => ?_)
  obtain ⟨X, Fv, Fc, Fn, Av, -, -, -, hcap, -⟩ := Sb
  refine Run.pure hK (seg := [(0, .aload_n 0, 1)]) (by decide +kernel) (pc' := 1) (L' := #[.val (.ref x0), .val (.int (Int32.ofNat m)), .unset]) (S' := [(.ref x0)]) rfl ?_
  refine Run.getf hK (index := 15) (host := "") (Or.inl (hw _ (List.mem_of_getElem? (i := 157) rfl))) Via.refl Fv (by decide +kernel) ?_
  refine Run.alen hK Av (by decide +kernel) ?_
  refine Run.pure hK (seg := [(5, .aload_n 0, 1)]) (by decide +kernel) (pc' := 6) (L' := #[.val (.ref x0), .val (.int (Int32.ofNat m)), .unset]) (S' := [(.ref x0), (.int (Int32.ofNat cap))]) rfl ?_
  refine Run.getf hK (index := 22) (host := "") (Or.inl (hw _ (List.mem_of_getElem? (i := 159) rfl))) Via.refl Fc (by decide +kernel) ?_
  refine Run.pure hK (seg := [(9, .ishr, 1)]) (by decide +kernel) (pc' := 10) (L' := #[.val (.ref x0), .val (.int (Int32.ofNat m)), .unset]) (S' := [(.int ((Int32.ofNat cap) >>> ((0 : Int32) &&& 31)))]) rfl ?_
  rw [shr0]
  refine Run.pure hK (seg := [(10, .istore_n 2, 1), (11, .iload_n 1, 1), (12, .iload_n 2, 1), (13, .isub, 1)]) (by decide +kernel) (pc' := 14) (L' := #[.val (.ref x0), .val (.int (Int32.ofNat m)), .val (.int (Int32.ofNat cap))]) (S' := [(.int ((Int32.ofNat m) - (Int32.ofNat cap)))]) rfl ?_
  refine Run.ifz hK (cd := .le) (o := 24) (by decide +kernel) (by decide) (pc' := 38) rfl (fun _ => ?_) (fun q => by replace q := (h_le _ _).2 q; exact absurd q (le_sub0 hm hcap))
  exact Run.retv hK (by decide +kernel) (by decide) (by decide) ⟨rfl, rfl⟩
set_option maxRecDepth 65536 in
set_option maxHeartbeats 40000000 in
theorem c_min {l : Launch} {Z : State} {a0 : Array Value} {z0 : Int32} {fm : Value} (G : Env1 Z a0 z0 fm) (x y : Int32) (h : Heap) : Ctr Z consts_1 true l [] (⟨"java/lang/Math", "min", "(II)I"⟩ : MethodName) jdk_29_method_69_code 2 (some .int) ({ frames := 0, cells := 0, slots := 0, locals := 0 } : Room) #[(.int x), (.int y)] h [] (fun v h' => h' = h ∧ v = some (.int (if y < x then y else x))) := by
  obtain ⟨hw, hEL, O2, P5, O4⟩ := id G
  refine Ctr.of_run (a0 := a0) (L0 := #[.val (.int x), .val (.int y)]) (Jvm.Free.JP.mathPlain rfl (by decide +kernel)) hEL (by first | (simp [argsToLocals, Value.category, maxLocals]; done) | rfl) (fun K hK => ?_)
  refine Run.pure hK (seg := [(0, .iload_n 0, 1), (1, .iload_n 1, 1)]) (by decide +kernel) (pc' := 2) (L' := #[.val (.int x), .val (.int y)]) (S' := [(.int y), (.int x)]) rfl ?_
  refine Run.icmp hK (cd := .gt) (o := 7) (by decide +kernel) (by decide) (pc' := 9) rfl (fun q => ?_) (fun q => ?_)
  · replace q := (h_gt _ _).1 q
    refine Run.pure hK (seg := [(9, .iload_n 1, 1)]) (by decide +kernel) (pc' := 10) (L' := #[.val (.int x), .val (.int y)]) (S' := [(.int y)]) rfl ?_
    exact Run.retw hK (i := .ireturn) rfl (Or.inl ⟨rfl, Or.inl rfl, _, rfl⟩) (by decide +kernel) (by decide) (by decide) ⟨rfl, by rw [if_pos q]⟩
  · replace q := (h_gt _ _).2 q
    refine Run.pure hK (seg := [(5, .iload_n 0, 1), (6, .goto 4, 3)]) (by decide +kernel) (pc' := 10) (L' := #[.val (.int x), .val (.int y)]) (S' := [(.int x)]) rfl ?_
    exact Run.retw hK (i := .ireturn) rfl (Or.inl ⟨rfl, Or.inl rfl, _, rfl⟩) (by decide +kernel) (by decide) (by decide) ⟨rfl, by rw [if_neg q]⟩
set_option maxRecDepth 65536 in
set_option maxHeartbeats 40000000 in
theorem c_gv {l : Launch} {Z : State} {a0 : Array Value} {z0 : Int32} {fm : Value} (G : Env1 Z a0 z0 fm) (x0 va : Addr) {cs : List Int32} {k : ClassId} {cap : Nat} (h : Heap) (Sb : SBo Z h x0 va k cap cs) : Ctr Z consts_1 true l [] (⟨"java/lang/AbstractStringBuilder", "getValue", "()[B"⟩ : MethodName) jdk_68_method_64_code 1 (some (.array .byte)) ({ frames := 0, cells := 0, slots := 0, locals := 0 } : Room) #[(.ref x0)] h [] (fun v h' => h' = h ∧ v = some (.ref va)) := by
  obtain ⟨hw, hEL, O2, P5, O4⟩ := id G
  refine Ctr.of_run (a0 := a0) (L0 := #[.val (.ref x0)]) (plainFor_of_name pn_asb) hEL (by first | (simp [argsToLocals, Value.category, maxLocals]; done) | rfl) (fun K hK => ?_)
  obtain ⟨X, Fv, Fc, Fn, Av, -⟩ := Sb
  refine Run.pure hK (seg := [(0, .aload_n 0, 1)]) (by decide +kernel) (pc' := 1) (L' := #[.val (.ref x0)]) (S' := [(.ref x0)]) rfl ?_
  refine Run.getf hK (index := 15) (host := "") (Or.inl (hw _ (List.mem_of_getElem? (i := 157) rfl))) Via.refl Fv (by decide +kernel) ?_
  exact Run.retw hK (i := .areturn) rfl (Or.inr (Or.inr (Or.inr (Or.inr ⟨rfl, rfl, rfl⟩)))) (by decide +kernel) (by decide) (by decide) ⟨rfl, rfl⟩
set_option maxRecDepth 65536 in
set_option maxHeartbeats 40000000 in
theorem c_al {l : Launch} {Z : State} {a0 : Array Value} {z0 : Int32} {fm : Value} (G : Env1 Z a0 z0 fm) (x0 va : Addr) {cs : List Int32} {k : ClassId} {cap : Nat} (h : Heap) (Sb : SBo Z h x0 va k cap cs) : Ctr Z consts_1 true l [] (⟨"java/lang/AbstractStringBuilder", "length", "()I"⟩ : MethodName) jdk_68_method_6_code 1 (some .int) ({ frames := 0, cells := 0, slots := 0, locals := 0 } : Room) #[(.ref x0)] h [] (fun v h' => h' = h ∧ v = some (.int (Int32.ofNat cs.length))) := by
  obtain ⟨hw, hEL, O2, P5, O4⟩ := id G
  refine Ctr.of_run (a0 := a0) (L0 := #[.val (.ref x0)]) (plainFor_of_name pn_asb) hEL (by first | (simp [argsToLocals, Value.category, maxLocals]; done) | rfl) (fun K hK => ?_)
  obtain ⟨X, Fv, Fc, Fn, Av, -⟩ := Sb
  refine Run.pure hK (seg := [(0, .aload_n 0, 1)]) (by decide +kernel) (pc' := 1) (L' := #[.val (.ref x0)]) (S' := [(.ref x0)]) rfl ?_
  refine Run.getf hK (index := 79) (host := "") (Or.inl (hw _ (List.mem_of_getElem? (i := 171) rfl))) Via.refl Fn (by decide +kernel) ?_
  exact Run.retw hK (i := .ireturn) rfl (Or.inl ⟨rfl, Or.inl rfl, _, rfl⟩) (by decide +kernel) (by decide) (by decide) ⟨rfl, rfl⟩
set_option maxRecDepth 65536 in
set_option maxHeartbeats 40000000 in
theorem c_sl {l : Launch} {Z : State} {a0 : Array Value} {z0 : Int32} {fm : Value} (G : Env1 Z a0 z0 fm) (x0 va : Addr) {cs : List Int32} {k : ClassId} {cap : Nat} (h : Heap) (Sb : SBo Z h x0 va k cap cs) : Ctr Z consts_1 true l [] (⟨"java/lang/StringBuilder", "length", "()I"⟩ : MethodName) jdk_67_method_93_code 1 (some .int) ({ frames := 1, cells := 0, slots := 0, locals := 12 } : Room) #[(.ref x0)] h [] (fun v h' => h' = h ∧ v = some (.int (Int32.ofNat cs.length))) := by
  obtain ⟨hw, hEL, O2, P5, O4⟩ := id G
  refine Ctr.of_run (a0 := a0) (L0 := #[.val (.ref x0)]) (plainFor_of_name pn_sb) hEL (by first | (simp [argsToLocals, Value.category, maxLocals]; done) | rfl) (fun K hK => ?_)
  refine Run.pure hK (seg := [(0, .aload_n 0, 1)]) (by decide +kernel) (pc' := 1) (L' := #[.val (.ref x0)]) (S' := [(.ref x0)]) rfl ?_
  refine Run.up hK (index := 343) (y := (⟨"java/lang/AbstractStringBuilder", "length", "()I"⟩ : MethodName)) (Wt := 0) (kc := 0) (ks := 0) (by decide) (hw _ (List.mem_of_getElem? (i := 209) rfl)) (sm_of (hw _ (List.mem_of_getElem? (i := 176) rfl)) (hw _ (List.mem_of_getElem? (i := 174) rfl)) (hw _ (List.mem_of_getElem? (i := 205) rfl)) rfl (by decide)) (hw _ (List.mem_of_getElem? (i := 205) rfl)) (hw _ (List.mem_of_getElem? (i := 168) rfl)) (hw _ (List.mem_of_getElem? (i := 210) rfl)) (a := x0) (Ins.self Sb.1) (W' := []) (fun _ q => nomatch q) (Ctr.cal (c_al G x0 va h Sb) (hw _ (List.mem_of_getElem? (i := 210) rfl)) (hw _ (List.mem_of_getElem? (i := 153) rfl)) (by decide) (by decide)) rfl (argsL := []) (rest := []) (lenOf pd_len rfl) rfl (Nat.le_of_ble_eq_true rfl) (by decide +kernel) (by decide) (by decide) (fun v1 h1 q1 n1 => ?_)
  obtain ⟨rfl, rfl⟩ := q1
  exact Run.retw hK (i := .ireturn) rfl (Or.inl ⟨rfl, Or.inl rfl, _, rfl⟩) (by decide +kernel) (by decide) (by decide) ⟨rfl, rfl⟩
set_option maxRecDepth 65536 in
set_option maxHeartbeats 40000000 in
theorem c_il {l : Launch} {Z : State} {a0 : Array Value} {z0 : Int32} {fm : Value} (G : Env1 Z a0 z0 fm) (x0 va : Addr) {cs : List Int32} {k : ClassId} {cap : Nat} (h : Heap) (Sb : SBo Z h x0 va k cap cs) : Ctr Z consts_1 true l [] (⟨"java/lang/AbstractStringBuilder", "isLatin1", "()Z"⟩ : MethodName) jdk_68_method_68_code 1 (some .boolean) ({ frames := 0, cells := 0, slots := 0, locals := 0 } : Room) #[(.ref x0)] h [] (fun v h' => h' = h ∧ v = some (.int 1)) := by
  obtain ⟨hw, hEL, O2, P5, O4⟩ := id G
  refine Ctr.of_run (a0 := a0) (L0 := #[.val (.ref x0)]) (plainFor_of_name pn_asb) hEL (by first | (simp [argsToLocals, Value.category, maxLocals]; done) | rfl) (fun K hK => ?_)
  obtain ⟨X, Fv, Fc, Fn, Av, -⟩ := Sb
  refine Run.old (fun hO => ?_)
  refine Run.gets hK (index := 18) (hw _ (List.mem_of_getElem? (i := 156) rfl)) Via.refl (O2.ext hO) (by decide +kernel) ?_
  refine Run.ifz hK (cd := .eq) (o := 14) (by decide +kernel) (by decide) (pc' := 17) rfl (fun q => by replace q := (h_eq _ _).1 q; exact absurd q P5) (fun _ => ?_)
  refine Run.pure hK (seg := [(6, .aload_n 0, 1)]) (by decide +kernel) (pc' := 7) (L' := #[.val (.ref x0)]) (S' := [(.ref x0)]) rfl ?_
  refine Run.getf hK (index := 22) (host := "") (Or.inl (hw _ (List.mem_of_getElem? (i := 159) rfl))) Via.refl Fc (by decide +kernel) ?_
  refine Run.ifz hK (cd := .ne) (o := 7) (by decide +kernel) (by decide) (pc' := 17) rfl (fun q => by replace q := (h_ne _ _).1 q; exact absurd rfl q) (fun _ => ?_)
  refine Run.pure hK (seg := [(13, .iconst 1, 1), (14, .goto 4, 3)]) (by decide +kernel) (pc' := 18) (L' := #[.val (.ref x0)]) (S' := [(.int (1 : Int32))]) rfl ?_
  exact Run.retw hK (i := .ireturn) rfl (Or.inl ⟨rfl, Or.inr (Or.inl rfl), _, rfl⟩) (by decide +kernel) (by decide) (by decide) ⟨rfl, rfl⟩
set_option maxRecDepth 65536 in
set_option maxHeartbeats 40000000 in
theorem c_ck {l : Launch} {Z : State} {a0 : Array Value} {z0 : Int32} {fm : Value} (G : Env1 Z a0 z0 fm) (m : Nat) (h : Heap) (hm : m ≤ 4000) : Ctr Z consts_1 true l [] (⟨"java/util/Arrays", "checkLength", "(II)V"⟩ : MethodName) jdk_65_method_131_code 2 none ({ frames := 0, cells := 0, slots := 0, locals := 0 } : Room) #[(.int (0 : Int32)), (.int (Int32.ofNat m))] h [] (fun v h' => h' = h ∧ v = none) := by
  obtain ⟨hw, hEL, O2, P5, O4⟩ := id G
  refine Ctr.of_run (a0 := a0) (L0 := #[.val (.int (0 : Int32)), .val (.int (Int32.ofNat m))]) (plainFor_of_name pn_ar) hEL (by first | (simp [argsToLocals, Value.category, maxLocals]; done) | rfl) (fun K hK => ?_)
  refine Run.pure hK (seg := [(0, .iload_n 1, 1), (1, .iload_n 0, 1)]) (by decide +kernel) (pc' := 2) (L' := #[.val (.int (0 : Int32)), .val (.int (Int32.ofNat m))]) (S' := [(.int (0 : Int32)), (.int (Int32.ofNat m))]) rfl ?_
  refine Run.icmp hK (cd := .ge) (o := 35) (by decide +kernel) (by decide) (pc' := 37) rfl (fun _ => ?_) (fun q => by replace q := (h_ge _ _).2 q; exact absurd q (ofN_nn hm))
  exact Run.retv hK (by decide +kernel) (by decide) (by decide) ⟨rfl, rfl⟩
set_option maxRecDepth 65536 in
set_option maxHeartbeats 40000000 in
theorem c_crb {l : Launch} {Z : State} {a0 : Array Value} {z0 : Int32} {fm : Value} (G : Env1 Z a0 z0 fm) (va : Addr) (m : Nat) {vs : List Value} {k : ClassId} {cap : Nat} (h : Heap) (A : Arv Z h va k .byte (Int32.ofNat cap) vs (.int 0)) (hm : vs.length = m) (hlt : m < cap) (hcap : cap ≤ 4000) (hC : m ≤ 16) : Ctr Z consts_1 true l [] (⟨"java/util/Arrays", "copyOfRangeByte", "([BII)[B"⟩ : MethodName) jdk_65_method_133_code 5 (some (.array .byte)) ({ frames := 1, cells := 1, slots := 16, locals := 24 } : Room) #[(.ref va), (.int (0 : Int32)), (.int (Int32.ofNat m))] h [] (fun v h' => ∃ a k', v = some (.ref a) ∧ Arv Z h' a k' .byte (Int32.ofNat m) vs (.int 0) ∧ Ext h h') := by
  obtain ⟨hw, hEL, O2, P5, O4⟩ := id G
  refine Ctr.of_run (a0 := a0) (L0 := #[.val (.ref va), .val (.int (0 : Int32)), .val (.int (Int32.ofNat m)), .unset, .unset]) (plainFor_of_name pn_ar) hEL (by first | (simp [argsToLocals, Value.category, maxLocals]; done) | rfl) (fun K hK => ?_)
  refine Run.old (fun hO => ?_)
  refine Run.pure hK (seg := [(0, .iload_n 1, 1), (1, .iload_n 2, 1)]) (by decide +kernel) (pc' := 2) (L' := #[.val (.ref va), .val (.int (0 : Int32)), .val (.int (Int32.ofNat m)), .unset, .unset]) (S' := [(.int (Int32.ofNat m)), (.int (0 : Int32))]) rfl ?_
  refine Run.static hK (index := 343) (y := (⟨"java/util/Arrays", "checkLength", "(II)V"⟩ : MethodName)) (Wt := 0) (kc := 0) (ks := 0) (hw _ (List.mem_of_getElem? (i := 109) rfl)) (hw _ (List.mem_of_getElem? (i := 110) rfl)) (hw _ (List.mem_of_getElem? (i := 104) rfl)) (hw _ (List.mem_of_getElem? (i := 111) rfl)) (by decide) (W' := []) (fun _ q => nomatch q) (Ctr.cal (c_ck G m h (by omega)) (hw _ (List.mem_of_getElem? (i := 111) rfl)) (hw _ (List.mem_of_getElem? (i := 104) rfl)) (by decide) (by decide)) rfl (argsL := [(.int (0 : Int32)), (.int (Int32.ofNat m))]) (rest := []) (lenOf pd_ck rfl) rfl (Nat.le_of_ble_eq_true rfl) (by decide +kernel) (by decide) (by decide) (fun v1 h1 q1 n1 => ?_)
  obtain ⟨rfl, rfl⟩ := q1
  refine Run.pure hK (seg := [(5, .iload_n 2, 1), (6, .iload_n 1, 1), (7, .isub, 1)]) (by decide +kernel) (pc' := 8) (L' := #[.val (.ref va), .val (.int (0 : Int32)), .val (.int (Int32.ofNat m)), .unset, .unset]) (S' := [(.int ((Int32.ofNat m) - (0 : Int32)))]) rfl ?_
  rw [sub0]
  refine Run.pure hK (seg := [(8, .istore_n 3, 1), (9, .iload_n 3, 1)]) (by decide +kernel) (pc' := 10) (L' := #[.val (.ref va), .val (.int (0 : Int32)), .val (.int (Int32.ofNat m)), .val (.int (Int32.ofNat m)), .unset]) (S' := [(.int (Int32.ofNat m))]) rfl ?_
  refine Run.newarr hK (aty := .byte) (hw _ (List.mem_of_getElem? (i := 36) rfl)) (by decide +kernel) (ofN_nn (by omega)) (cap := 16) (by rw [ofN_nat (by omega)]; exact hC) (by decide) (by decide) (by decide) (fun hr kr Er Ar => ?_)
  obtain ⟨ar, zr⟩ : ∃ z, z = h1.size := ⟨_, rfl⟩
  rw [← zr]
  rw [← zr] at Ar
  refine Run.pure hK (seg := [(12, .astore 4, 2), (14, .aload_n 0, 1), (15, .iload_n 1, 1), (16, .aload 4, 2), (18, .iconst 0, 1), (19, .aload_n 0, 1)]) (by decide +kernel) (pc' := 20) (L' := #[.val (.ref va), .val (.int (0 : Int32)), .val (.int (Int32.ofNat m)), .val (.int (Int32.ofNat m)), .val (.ref ar)]) (S' := [(.ref va), (.int (0 : Int32)), (.ref ar), (.int (0 : Int32)), (.ref va)]) rfl ?_
  refine Run.alen hK (A.ext Er) (by decide +kernel) ?_
  refine Run.pure hK (seg := [(21, .iload_n 1, 1), (22, .isub, 1)]) (by decide +kernel) (pc' := 23) (L' := #[.val (.ref va), .val (.int (0 : Int32)), .val (.int (Int32.ofNat m)), .val (.int (Int32.ofNat m)), .val (.ref ar)]) (S' := [(.int ((Int32.ofNat cap) - (0 : Int32))), (.int (0 : Int32)), (.ref ar), (.int (0 : Int32)), (.ref va)]) rfl ?_
  rw [sub0]
  refine Run.pure hK (seg := [(23, .iload_n 3, 1)]) (by decide +kernel) (pc' := 24) (L' := #[.val (.ref va), .val (.int (0 : Int32)), .val (.int (Int32.ofNat m)), .val (.int (Int32.ofNat m)), .val (.ref ar)]) (S' := [(.int (Int32.ofNat m)), (.int (Int32.ofNat cap)), (.int (0 : Int32)), (.ref ar), (.int (0 : Int32)), (.ref va)]) rfl ?_
  refine Run.static hK (index := 304) (y := (⟨"java/lang/Math", "min", "(II)I"⟩ : MethodName)) (Wt := 4) (kc := 0) (ks := 0) (hw _ (List.mem_of_getElem? (i := 112) rfl)) (hw _ (List.mem_of_getElem? (i := 113) rfl)) (hw _ (List.mem_of_getElem? (i := 114) rfl)) (hw _ (List.mem_of_getElem? (i := 115) rfl)) (by decide) (W' := []) (fun _ q => nomatch q) (Ctr.cal (c_min G (Int32.ofNat cap) (Int32.ofNat m) hr) (hw _ (List.mem_of_getElem? (i := 115) rfl)) (hw _ (List.mem_of_getElem? (i := 114) rfl)) (by decide) (by decide)) rfl (argsL := [(.int (Int32.ofNat cap)), (.int (Int32.ofNat m))]) (rest := [(.int (0 : Int32)), (.ref ar), (.int (0 : Int32)), (.ref va)]) (lenOf pd_min rfl) rfl (Nat.le_of_ble_eq_true rfl) (by decide +kernel) (by decide) (by decide) (fun v2 h2 q2 n2 => ?_)
  obtain ⟨rfl, rfl⟩ := q2
  rw [if_pos ((ofN_lt2 (by omega) (by omega)).mpr hlt)]
  have P : Arv Z h2 ar kr .byte (Int32.ofNat m) (List.replicate m (.int 0)) (.int 0) := Ar.pad (fun i => by rw [List.getD_eq_getElem?_getD, List.getElem?_replicate]; split <;> rfl)
  refine Run.cpy hK (index := 150) (hw _ (List.mem_of_getElem? (i := 116) rfl)) (hw _ (List.mem_of_getElem? (i := 119) rfl)) (hw _ (List.mem_of_getElem? (i := 117) rfl)) (hw _ (List.mem_of_getElem? (i := 118) rfl)) (A.ext Er) P rfl (by decide) (by decide) (ofN_nn (by omega)) (by rw [ofN_nat (by omega), ofN_nat (by omega)]; show 0 + _ ≤ _; omega) (by show 0 + _ ≤ _; omega) (us := (List.range m).map fun i => vs.getD (0 + i) (.int 0)) (by rw [ofN_nat (by omega)]; rfl) (by rw [ofN_nat (by omega), List.length_replicate]; show 0 + _ ≤ _; omega) (by rw [zr]; exact hO.1) (sfW (List.mem_cons_self ..)) rfl (by decide +kernel) (by decide) (Wt := 0) (Nat.le_of_ble_eq_true rfl) (by decide) (fun h3 K3 B3 => ?_)
  have Af : Arv Z h3 ar kr .byte (Int32.ofNat m) vs (.int 0) := by
    rw [ofN_nat (by omega : m ≤ 4000)] at B3
    exact B3.pad (cp_pad' (.int 0) (by omega) (Nat.le_refl _))
  refine Run.pure hK (seg := [(30, .aload 4, 2)]) (by decide +kernel) (pc' := 32) (L' := #[.val (.ref va), .val (.int (0 : Int32)), .val (.int (Int32.ofNat m)), .val (.int (Int32.ofNat m)), .val (.ref ar)]) (S' := [(.ref ar)]) rfl ?_
  exact Run.retw hK (i := .areturn) rfl (Or.inr (Or.inr (Or.inr (Or.inr ⟨rfl, rfl, rfl⟩)))) (by decide +kernel) (by decide) (by decide) ⟨ar, kr, rfl, Af, ext_keep Er K3 (fun x hx => by cases List.mem_singleton.mp hx; rw [zr]; exact Nat.le_refl _)⟩
set_option maxRecDepth 65536 in
set_option maxHeartbeats 40000000 in
theorem c_cor {l : Launch} {Z : State} {a0 : Array Value} {z0 : Int32} {fm : Value} (G : Env1 Z a0 z0 fm) (va : Addr) (m : Nat) {vs : List Value} {k : ClassId} {cap : Nat} (h : Heap) (A : Arv Z h va k .byte (Int32.ofNat cap) vs (.int 0)) (hm : vs.length = m) (hlt : m < cap) (hcap : cap ≤ 4000) (hC : m ≤ 16) : Ctr Z consts_1 true l [] (⟨"java/util/Arrays", "copyOfRange", "([BII)[B"⟩ : MethodName) jdk_65_method_132_code 3 (some (.array .byte)) ({ frames := 2, cells := 1, slots := 16, locals := 44 } : Room) #[(.ref va), (.int (0 : Int32)), (.int (Int32.ofNat m))] h [] (fun v h' => ∃ a k', v = some (.ref a) ∧ Arv Z h' a k' .byte (Int32.ofNat m) vs (.int 0) ∧ Ext h h') := by
  obtain ⟨hw, hEL, O2, P5, O4⟩ := id G
  refine Ctr.of_run (a0 := a0) (L0 := #[.val (.ref va), .val (.int (0 : Int32)), .val (.int (Int32.ofNat m))]) (plainFor_of_name pn_ar) hEL (by first | (simp [argsToLocals, Value.category, maxLocals]; done) | rfl) (fun K hK => ?_)
  refine Run.pure hK (seg := [(0, .iload_n 1, 1)]) (by decide +kernel) (pc' := 1) (L' := #[.val (.ref va), .val (.int (0 : Int32)), .val (.int (Int32.ofNat m))]) (S' := [(.int (0 : Int32))]) rfl ?_
  refine Run.ifz hK (cd := .ne) (o := 9) (by decide +kernel) (by decide) (pc' := 10) rfl (fun q => by replace q := (h_ne _ _).1 q; exact absurd rfl q) (fun _ => ?_)
  refine Run.pure hK (seg := [(4, .iload_n 2, 1), (5, .aload_n 0, 1)]) (by decide +kernel) (pc' := 6) (L' := #[.val (.ref va), .val (.int (0 : Int32)), .val (.int (Int32.ofNat m))]) (S' := [(.ref va), (.int (Int32.ofNat m))]) rfl ?_
  refine Run.alen hK A (by decide +kernel) ?_
  refine Run.icmp hK (cd := .eq) (o := 10) (by decide +kernel) (by decide) (pc' := 17) rfl (fun q => by replace q := (h_eq _ _).1 q; have z := congrArg Int32.toInt q; rw [ofN (by omega), ofN (by omega)] at z; omega) (fun _ => ?_)
  refine Run.pure hK (seg := [(10, .aload_n 0, 1), (11, .iload_n 1, 1), (12, .iload_n 2, 1)]) (by decide +kernel) (pc' := 13) (L' := #[.val (.ref va), .val (.int (0 : Int32)), .val (.int (Int32.ofNat m))]) (S' := [(.int (Int32.ofNat m)), (.int (0 : Int32)), (.ref va)]) rfl ?_
  refine Run.static hK (index := 339) (y := (⟨"java/util/Arrays", "copyOfRangeByte", "([BII)[B"⟩ : MethodName)) (Wt := 0) (kc := 1) (ks := 16) (hw _ (List.mem_of_getElem? (i := 106) rfl)) (hw _ (List.mem_of_getElem? (i := 107) rfl)) (hw _ (List.mem_of_getElem? (i := 104) rfl)) (hw _ (List.mem_of_getElem? (i := 108) rfl)) (by decide) (W' := []) (fun _ q => nomatch q) (Ctr.cal (c_crb G va m h A hm hlt hcap hC) (hw _ (List.mem_of_getElem? (i := 108) rfl)) (hw _ (List.mem_of_getElem? (i := 104) rfl)) (by decide) (by decide)) rfl (argsL := [(.ref va), (.int (0 : Int32)), (.int (Int32.ofNat m))]) (rest := []) (lenOf pd_cor rfl) rfl (Nat.le_of_ble_eq_true rfl) (by decide +kernel) (by decide) (by decide) (fun v1 h1 q1 n1 => ?_)
  obtain ⟨a1, k1, rfl, A1, E1⟩ := q1
  exact Run.retw hK (i := .areturn) rfl (Or.inr (Or.inr (Or.inr (Or.inr ⟨rfl, rfl, rfl⟩)))) (by decide +kernel) (by decide) (by decide) ⟨a1, k1, rfl, A1, E1⟩
set_option maxRecDepth 65536 in
set_option maxHeartbeats 40000000 in
theorem c_sv {l : Launch} {Z : State} {a0 : Array Value} {z0 : Int32} {fm : Value} (G : Env1 Z a0 z0 fm) (x0 b va : Addr) {cs : List Int32} {k : ClassId} {cap : Nat} (h : Heap) (hx0 : Z.heap.size ≤ x0) (X : Exa Z h x0 "java/lang/String") {v0 c0 : Value} (Fv : Fld Z h x0 "java/lang/String" "value" "[B" v0) (Fc : Fld Z h x0 "java/lang/String" "coder" "B" c0) (Sb : SBo Z h b va k cap cs) (hlt : cs.length < cap) (hC : cs.length ≤ 16) : Ctr Z consts_1 true l [] (⟨"java/lang/String", "<init>", "(Ljava/lang/AbstractStringBuilder;Ljava/lang/Void;)V"⟩ : MethodName) jdk_42_method_150_code 5 none ({ frames := 3, cells := 1, slots := 16, locals := 70 } : Room) #[(.ref x0), (.ref b), .null] h [x0] (fun v h' => v = none ∧ Str Z h' x0 cs ∧ Keep h h' [x0]) := by
  obtain ⟨hw, hEL, O2, P5, O4⟩ := id G
  refine Ctr.of_run (a0 := a0) (L0 := #[.val (.ref x0), .val (.ref b), .val .null, .unset, .unset]) (plainFor_of_name pn_str) hEL (by first | (simp [argsToLocals, Value.category, maxLocals]; done) | rfl) (fun K hK => ?_)
  have SX := Sb.1
  obtain ⟨-, -, -, -, Av, -, -, -, hcap, hb⟩ := id Sb
  have nv : va ≠ x0 := (X.neArv Av (hw _ (List.mem_of_getElem? (i := 19) rfl))).symm
  refine Run.pure hK (seg := [(0, .aload_n 0, 1)]) (by decide +kernel) (pc' := 1) (L' := #[.val (.ref x0), .val (.ref b), .val .null, .unset, .unset]) (S' := [(.ref x0)]) rfl ?_
  refine Run.initobj hK (index := 1) (hw _ (List.mem_of_getElem? (i := 28) rfl)) (hw _ (List.mem_of_getElem? (i := 29) rfl)) (hw _ (List.mem_of_getElem? (i := 30) rfl)) rfl (by decide +kernel) (by decide) (Wt := 0) (Nat.le_of_ble_eq_true rfl) (by decide) ?_
  refine Run.pure hK (seg := [(4, .aload_n 1, 1)]) (by decide +kernel) (pc' := 5) (L' := #[.val (.ref x0), .val (.ref b), .val .null, .unset, .unset]) (S' := [(.ref b)]) rfl ?_
  refine Run.virtual hK (index := 552) (y := (⟨"java/lang/AbstractStringBuilder", "getValue", "()[B"⟩ : MethodName)) (z := (⟨"java/lang/AbstractStringBuilder", "getValue", "()[B"⟩ : MethodName)) (C := "java/lang/StringBuilder") (Wt := 0) (kc := 0) (ks := 0) (hw _ (List.mem_of_getElem? (i := 198) rfl)) (hw _ (List.mem_of_getElem? (i := 199) rfl)) (nfS (hw _ (List.mem_of_getElem? (i := 201) rfl))) (hw _ (List.mem_of_getElem? (i := 201) rfl)) (hw _ (List.mem_of_getElem? (i := 200) rfl)) (by decide) (a := b) SX (W' := []) (fun _ q => nomatch q) (Ctr.cal (c_gv G b va h Sb) (hw _ (List.mem_of_getElem? (i := 202) rfl)) (hw _ (List.mem_of_getElem? (i := 153) rfl)) (by decide) (by decide)) rfl (argsL := []) (rest := []) (lenOf pd_gv rfl) rfl (Nat.le_of_ble_eq_true rfl) (by decide +kernel) (by decide) (by decide) (fun v1 h1 q1 n1 => ?_)
  obtain ⟨rfl, rfl⟩ := q1
  refine Run.pure hK (seg := [(8, .astore_n 3, 1), (9, .aload_n 1, 1)]) (by decide +kernel) (pc' := 10) (L' := #[.val (.ref x0), .val (.ref b), .val .null, .val (.ref va), .unset]) (S' := [(.ref b)]) rfl ?_
  refine Run.virtual hK (index := 549) (y := (⟨"java/lang/AbstractStringBuilder", "length", "()I"⟩ : MethodName)) (z := (⟨"java/lang/StringBuilder", "length", "()I"⟩ : MethodName)) (C := "java/lang/StringBuilder") (Wt := 0) (kc := 0) (ks := 0) (hw _ (List.mem_of_getElem? (i := 203) rfl)) (hw _ (List.mem_of_getElem? (i := 204) rfl)) (nfO (hw _ (List.mem_of_getElem? (i := 176) rfl)) (hw _ (List.mem_of_getElem? (i := 174) rfl)) rfl) (hw _ (List.mem_of_getElem? (i := 206) rfl)) (hw _ (List.mem_of_getElem? (i := 207) rfl)) (by decide) (a := b) SX (W' := []) (fun _ q => nomatch q) (Ctr.cal (c_sl G b va h1 Sb) (hw _ (List.mem_of_getElem? (i := 208) rfl)) (hw _ (List.mem_of_getElem? (i := 145) rfl)) (by decide) (by decide)) rfl (argsL := []) (rest := []) (lenOf pd_len rfl) rfl (Nat.le_of_ble_eq_true rfl) (by decide +kernel) (by decide) (by decide) (fun v2 h2 q2 n2 => ?_)
  obtain ⟨rfl, rfl⟩ := q2
  refine Run.pure hK (seg := [(13, .istore 4, 2), (15, .aload_n 1, 1)]) (by decide +kernel) (pc' := 16) (L' := #[.val (.ref x0), .val (.ref b), .val .null, .val (.ref va), .val (.int (Int32.ofNat cs.length))]) (S' := [(.ref b)]) rfl ?_
  refine Run.virtual hK (index := 1047) (y := (⟨"java/lang/AbstractStringBuilder", "isLatin1", "()Z"⟩ : MethodName)) (z := (⟨"java/lang/AbstractStringBuilder", "isLatin1", "()Z"⟩ : MethodName)) (C := "java/lang/StringBuilder") (Wt := 0) (kc := 0) (ks := 0) (hw _ (List.mem_of_getElem? (i := 211) rfl)) (hw _ (List.mem_of_getElem? (i := 179) rfl)) (nfS (hw _ (List.mem_of_getElem? (i := 181) rfl))) (hw _ (List.mem_of_getElem? (i := 181) rfl)) (hw _ (List.mem_of_getElem? (i := 180) rfl)) (by decide) (a := b) SX (W' := []) (fun _ q => nomatch q) (Ctr.cal (c_il G b va h2 Sb) (hw _ (List.mem_of_getElem? (i := 182) rfl)) (hw _ (List.mem_of_getElem? (i := 153) rfl)) (by decide) (by decide)) rfl (argsL := []) (rest := []) (lenOf pd_z rfl) rfl (Nat.le_of_ble_eq_true rfl) (by decide +kernel) (by decide) (by decide) (fun v3 h3 q3 n3 => ?_)
  obtain ⟨rfl, rfl⟩ := q3
  refine Run.ifz hK (cd := .eq) (o := 22) (by decide +kernel) (by decide) (pc' := 41) rfl (fun q => by replace q := (h_eq _ _).1 q; exact absurd q (by decide)) (fun _ => ?_)
  refine Run.pure hK (seg := [(22, .aload_n 0, 1), (23, .iconst 0, 1)]) (by decide +kernel) (pc' := 24) (L' := #[.val (.ref x0), .val (.ref b), .val .null, .val (.ref va), .val (.int (Int32.ofNat cs.length))]) (S' := [(.int (0 : Int32)), (.ref x0)]) rfl ?_
  refine Run.putf hK (index := 15) (host := "") (Or.inl (hw _ (List.mem_of_getElem? (i := 43) rfl))) Via.refl Fc X (Or.inr ⟨(hw _ (List.mem_of_getElem? (i := 44) rfl)), rfl, rfl⟩) (hw _ (List.mem_of_getElem? (i := 19) rfl)) (ty := .byte) (by decide) rfl rfl hx0 (sfW (List.mem_singleton.mpr rfl)) (by decide +kernel) (fun h4 W4 => ?_)
  replace Fv := Fv.other W4 (Or.inr (slot_ne (Or.inr (hw _ (List.mem_of_getElem? (i := 46) rfl))) (Or.inr (hw _ (List.mem_of_getElem? (i := 44) rfl))) (by decide) (by decide : parseFieldDescriptor "[B" = some (.array .byte)) (by decide : parseFieldDescriptor "B" = some .byte)))
  replace Fc := Fc.same W4
  replace X := X.wr W4
  have A4 := Av.other W4 nv
  refine Run.pure hK (seg := [(27, .aload_n 0, 1), (28, .aload_n 3, 1), (29, .iconst 0, 1), (30, .iload 4, 2)]) (by decide +kernel) (pc' := 32) (L' := #[.val (.ref x0), .val (.ref b), .val .null, .val (.ref va), .val (.int (Int32.ofNat cs.length))]) (S' := [(.int (Int32.ofNat cs.length)), (.int (0 : Int32)), (.ref va), (.ref x0)]) rfl ?_
  refine Run.static hK (index := 54) (y := (⟨"java/util/Arrays", "copyOfRange", "([BII)[B"⟩ : MethodName)) (Wt := 1) (kc := 1) (ks := 16) (hw _ (List.mem_of_getElem? (i := 212) rfl)) (hw _ (List.mem_of_getElem? (i := 103) rfl)) (hw _ (List.mem_of_getElem? (i := 104) rfl)) (hw _ (List.mem_of_getElem? (i := 105) rfl)) (by decide) (W' := []) (fun _ q => nomatch q) (Ctr.cal (c_cor G va cs.length h4 A4 (lens cs) hlt hcap hC) (hw _ (List.mem_of_getElem? (i := 105) rfl)) (hw _ (List.mem_of_getElem? (i := 104) rfl)) (by decide) (by decide)) rfl (argsL := [(.ref va), (.int (0 : Int32)), (.int (Int32.ofNat cs.length))]) (rest := [(.ref x0)]) (lenOf pd_cor rfl) rfl (Nat.le_of_ble_eq_true rfl) (by decide +kernel) (by decide) (by decide) (fun v5 h5 q5 n5 => ?_)
  obtain ⟨a5, k5, rfl, A5, E5⟩ := q5
  replace Fv := Fv.ext E5
  replace Fc := Fc.ext E5
  replace X := X.ext E5
  have n5 : a5 ≠ x0 := (X.neArv A5 (hw _ (List.mem_of_getElem? (i := 19) rfl))).symm
  refine Run.putf hK (index := 9) (host := "") (Or.inl (hw _ (List.mem_of_getElem? (i := 45) rfl))) Via.refl Fv X (Or.inr ⟨(hw _ (List.mem_of_getElem? (i := 46) rfl)), rfl, rfl⟩) (hw _ (List.mem_of_getElem? (i := 19) rfl)) (ty := (.array .byte)) (by decide) rfl rfl hx0 (sfW (List.mem_singleton.mpr rfl)) (by decide +kernel) (fun h6 W6 => ?_)
  replace Fv := Fv.same W6
  replace Fc := Fc.other W6 (Or.inr (slot_ne (Or.inr (hw _ (List.mem_of_getElem? (i := 44) rfl))) (Or.inr (hw _ (List.mem_of_getElem? (i := 46) rfl))) (by decide) (by decide : parseFieldDescriptor "B" = some .byte) (by decide : parseFieldDescriptor "[B" = some (.array .byte))))
  replace X := X.wr W6
  replace A5 := A5.other W6 n5
  refine Run.pure hK (seg := [(38, .goto 59, 3)]) (by decide +kernel) (pc' := 97) (L' := #[.val (.ref x0), .val (.ref b), .val .null, .val (.ref va), .val (.int (Int32.ofNat cs.length))]) (S' := []) rfl ?_
  exact Run.retv hK (by decide +kernel) (by decide) (by decide) ⟨rfl, ⟨X, Fc, ⟨a5, k5, Fv, A5⟩, hb, by omega⟩, ((((Keep.refl _ [x0]).wr W4 (Or.inl (List.mem_singleton.mpr rfl))).ext E5).wr W6 (Or.inl (List.mem_singleton.mpr rfl)))⟩
set_option maxRecDepth 65536 in
set_option maxHeartbeats 40000000 in
theorem c_sb1 {l : Launch} {Z : State} {a0 : Array Value} {z0 : Int32} {fm : Value} (G : Env1 Z a0 z0 fm) (x0 b va : Addr) {cs : List Int32} {k : ClassId} {cap : Nat} (h : Heap) (hx0 : Z.heap.size ≤ x0) (X : Exa Z h x0 "java/lang/String") {v0 c0 : Value} (Fv : Fld Z h x0 "java/lang/String" "value" "[B" v0) (Fc : Fld Z h x0 "java/lang/String" "coder" "B" c0) (Sb : SBo Z h b va k cap cs) (hlt : cs.length < cap) (hC : cs.length ≤ 16) : Ctr Z consts_1 true l [] (⟨"java/lang/String", "<init>", "(Ljava/lang/StringBuilder;)V"⟩ : MethodName) jdk_42_method_53_code 2 none ({ frames := 4, cells := 1, slots := 16, locals := 90 } : Room) #[(.ref x0), (.ref b)] h [x0] (fun v h' => v = none ∧ Str Z h' x0 cs ∧ Keep h h' [x0]) := by
  obtain ⟨hw, hEL, O2, P5, O4⟩ := id G
  refine Ctr.of_run (a0 := a0) (L0 := #[.val (.ref x0), .val (.ref b)]) (plainFor_of_name pn_str) hEL (by first | (simp [argsToLocals, Value.category, maxLocals]; done) | rfl) (fun K hK => ?_)
  refine Run.pure hK (seg := [(0, .aload_n 0, 1), (1, .aload_n 1, 1), (2, .aconst_null, 1)]) (by decide +kernel) (pc' := 3) (L' := #[.val (.ref x0), .val (.ref b)]) (S' := [.null, (.ref b), (.ref x0)]) rfl ?_
  refine Run.special hK (index := 489) (y := (⟨"java/lang/String", "<init>", "(Ljava/lang/AbstractStringBuilder;Ljava/lang/Void;)V"⟩ : MethodName)) (Wt := 0) (kc := 1) (ks := 16) rfl (hw _ (List.mem_of_getElem? (i := 195) rfl)) (hw _ (List.mem_of_getElem? (i := 196) rfl)) (hw _ (List.mem_of_getElem? (i := 197) rfl)) (by decide) (a := x0) (fun _ q => q) (Ctr.cal (c_sv G x0 b va h hx0 X Fv Fc Sb hlt hC) (hw _ (List.mem_of_getElem? (i := 197) rfl)) (hw _ (List.mem_of_getElem? (i := 20) rfl)) (by decide) (by decide)) rfl (argsL := [(.ref b), .null]) (rest := []) (lenOf pd_sv rfl) rfl (Nat.le_of_ble_eq_true rfl) (by decide +kernel) (by decide) (by decide) (fun v1 h1 q1 n1 => ?_)
  obtain ⟨rfl, q⟩ := q1
  exact Run.retv hK (by decide +kernel) (by decide) (by decide) ⟨rfl, q⟩
set_option maxRecDepth 65536 in
set_option maxHeartbeats 40000000 in
theorem c_ts {l : Launch} {Z : State} {a0 : Array Value} {z0 : Int32} {fm : Value} (G : Env1 Z a0 z0 fm) (x0 va : Addr) {cs : List Int32} {k : ClassId} {cap : Nat} (h : Heap) (Sb : SBo Z h x0 va k cap cs) (hlt : cs.length < cap) (hC : cs.length ≤ 16) : Ctr Z consts_1 true l [] (⟨"java/lang/StringBuilder", "toString", "()Ljava/lang/String;"⟩ : MethodName) jdk_67_method_42_code 1 (some (.object "java/lang/String")) ({ frames := 5, cells := 2, slots := 20, locals := 105 } : Room) #[(.ref x0)] h [] (fun v h' => ∃ a, v = some (.ref a) ∧ Str Z h' a cs ∧ Ext h h') := by
  obtain ⟨hw, hEL, O2, P5, O4⟩ := id G
  refine Ctr.of_run (a0 := a0) (L0 := #[.val (.ref x0)]) (plainFor_of_name pn_sb) hEL (by first | (simp [argsToLocals, Value.category, maxLocals]; done) | rfl) (fun K hK => ?_)
  refine Run.old (fun hO => ?_)
  refine Run.new hK (index := 18) (C := "java/lang/String") (n := 4) (hw _ (List.mem_of_getElem? (i := 191) rfl)) (hw _ (List.mem_of_getElem? (i := 19) rfl)) (hw _ (List.mem_of_getElem? (i := 20) rfl)) (by decide +kernel) (by decide) (by decide) (fun hs Es Xs Ds => ?_)
  obtain ⟨as_, zs⟩ : ∃ z, z = h.size := ⟨_, rfl⟩
  rw [← zs]
  rw [← zs] at Xs Ds
  refine Run.pure hK (seg := [(3, .dup, 1), (4, .aload_n 0, 1)]) (by decide +kernel) (pc' := 5) (L' := #[.val (.ref x0)]) (S' := [(.ref x0), (.ref as_), (.ref as_)]) rfl ?_
  have Vs := Ds (Or.inr (hw _ (List.mem_of_getElem? (i := 46) rfl))) (ty := .array .byte) (by decide)
  have Cs := Ds (Or.inr (hw _ (List.mem_of_getElem? (i := 44) rfl))) (ty := .byte) (by decide)
  refine Run.special hK (index := 137) (y := (⟨"java/lang/String", "<init>", "(Ljava/lang/StringBuilder;)V"⟩ : MethodName)) (Wt := 1) (kc := 1) (ks := 16) rfl (hw _ (List.mem_of_getElem? (i := 192) rfl)) (hw _ (List.mem_of_getElem? (i := 193) rfl)) (hw _ (List.mem_of_getElem? (i := 194) rfl)) (by decide) (a := as_) (fun _ q => q) (Ctr.cal (c_sb1 G as_ x0 va hs (by rw [zs]; exact hO.1) Xs Vs Cs (Sb.ext Es) hlt hC) (hw _ (List.mem_of_getElem? (i := 194) rfl)) (hw _ (List.mem_of_getElem? (i := 20) rfl)) (by decide) (by decide)) rfl (argsL := [(.ref x0)]) (rest := [(.ref as_)]) (lenOf pd_sb1 rfl) rfl (Nat.le_of_ble_eq_true rfl) (by decide +kernel) (by decide) (by decide) (fun v1 h1 q1 n1 => ?_)
  obtain ⟨rfl, F1, K1⟩ := q1
  exact Run.retw hK (i := .areturn) rfl (Or.inr (Or.inr (Or.inr (Or.inr ⟨rfl, rfl, rfl⟩)))) (by decide +kernel) (by decide) (by decide) ⟨as_, rfl, F1, ext_keep Es K1 (fun x hx => by cases List.mem_singleton.mp hx; rw [zs]; exact Nat.le_refl _)⟩
set_option maxRecDepth 65536 in
set_option maxHeartbeats 40000000 in
theorem c_can {l : Launch} {Z : State} {a0 : Array Value} {z0 : Int32} {fm : Value} (G : Env1 Z a0 z0 fm) (x : Int32) (h : Heap) (hx : ¬ (255 : Int32) < x) : Ctr Z consts_1 true l [] (⟨"java/lang/StringLatin1", "canEncode", "(C)Z"⟩ : MethodName) jdk_43_method_3_code 1 (some .boolean) ({ frames := 0, cells := 0, slots := 0, locals := 0 } : Room) #[(.int x)] h [] (fun v h' => h' = h ∧ v = some (.int 1)) := by
  obtain ⟨hw, hEL, O2, P5, O4⟩ := id G
  refine Ctr.of_run (a0 := a0) (L0 := #[.val (.int x)]) (plainFor_of_name pn_sl) hEL (by first | (simp [argsToLocals, Value.category, maxLocals]; done) | rfl) (fun K hK => ?_)
  refine Run.pure hK (seg := [(0, .iload_n 0, 1), (1, .sipush 255, 3)]) (by decide +kernel) (pc' := 4) (L' := #[.val (.int x)]) (S' := [(.int (255 : Int32)), (.int x)]) rfl ?_
  refine Run.icmp hK (cd := .gt) (o := 7) (by decide +kernel) (by decide) (pc' := 11) rfl (fun q => by replace q := (h_gt _ _).1 q; exact absurd q hx) (fun _ => ?_)
  refine Run.pure hK (seg := [(7, .iconst 1, 1), (8, .goto 4, 3)]) (by decide +kernel) (pc' := 12) (L' := #[.val (.int x)]) (S' := [(.int (1 : Int32))]) rfl ?_
  exact Run.retw hK (i := .ireturn) rfl (Or.inl ⟨rfl, Or.inr (Or.inl rfl), _, rfl⟩) (by decide +kernel) (by decide) (by decide) ⟨rfl, rfl⟩
set_option maxRecDepth 65536 in
set_option maxHeartbeats 40000000 in
theorem c_aac {l : Launch} {Z : State} {a0 : Array Value} {z0 : Int32} {fm : Value} (G : Env1 Z a0 z0 fm) (x0 va : Addr) (x : Int32) {ds : List Int32} {k : ClassId} {cap : Nat} (h : Heap) (Sb : SBo Z h x0 va k cap ds) (hx : ¬ x < 0 ∧ ¬ (255 : Int32) < x) (hc : ds.length + 1 ≤ cap) : Ctr Z consts_1 true l [] (⟨"java/lang/AbstractStringBuilder", "append", "(C)Ljava/lang/AbstractStringBuilder;"⟩ : MethodName) jdk_68_method_31_code 2 (some (.object "java/lang/AbstractStringBuilder")) ({ frames := 2, cells := 0, slots := 0, locals := 36 } : Room) #[(.ref x0), (.int x)] h [va] (fun v h' => v = some (.ref x0) ∧ SBo Z h' x0 va k cap (ds ++ [x]) ∧ Keep h h' [x0, va]) := by
  obtain ⟨hw, hEL, O2, P5, O4⟩ := id G
  refine Ctr.of_run (a0 := a0) (L0 := #[.val (.ref x0), .val (.int x)]) (plainFor_of_name pn_asb) hEL (by first | (simp [argsToLocals, Value.category, maxLocals]; done) | rfl) (fun K hK => ?_)
  obtain ⟨X, Fv, Fc, Fn, Av, g1, g2, g3, hcap, g5⟩ := id Sb
  have nxv : x0 ≠ va := X.neArv Av (hw _ (List.mem_of_getElem? (i := 144) rfl))
  refine Run.pure hK (seg := [(0, .aload_n 0, 1), (1, .aload_n 0, 1)]) (by decide +kernel) (pc' := 2) (L' := #[.val (.ref x0), .val (.int x)]) (S' := [(.ref x0), (.ref x0)]) rfl ?_
  refine Run.getf hK (index := 79) (host := "") (Or.inl (hw _ (List.mem_of_getElem? (i := 171) rfl))) Via.refl Fn (by decide +kernel) ?_
  refine Run.pure hK (seg := [(5, .iconst 1, 1), (6, .iadd, 1)]) (by decide +kernel) (pc' := 7) (L' := #[.val (.ref x0), .val (.int x)]) (S' := [(.int ((Int32.ofNat ds.length) + (1 : Int32))), (.ref x0)]) rfl ?_
  rw [show Int32.ofNat ds.length + (1 : Int32) = Int32.ofNat (ds.length + 1) from ofN_add (n := ds.length) (m := 1) (by omega)]
  refine Run.privatS hK (index := 100) (y := (⟨"java/lang/AbstractStringBuilder", "ensureCapacityInternal", "(I)V"⟩ : MethodName)) (Wt := 0) (kc := 0) (ks := 0) (hw _ (List.mem_of_getElem? (i := 173) rfl)) (hw _ (List.mem_of_getElem? (i := 174) rfl)) (hw _ (List.mem_of_getElem? (i := 176) rfl)) (hw _ (List.mem_of_getElem? (i := 175) rfl)) (hw _ (List.mem_of_getElem? (i := 177) rfl)) (by decide) (a := x0) X (W' := []) (fun _ q => nomatch q) (Ctr.cal (c_ens G x0 va (ds.length + 1) h Sb hc) (hw _ (List.mem_of_getElem? (i := 177) rfl)) (hw _ (List.mem_of_getElem? (i := 153) rfl)) (by decide) (by decide)) rfl (argsL := [(.int (Int32.ofNat (ds.length + 1)))]) (rest := []) (lenOf pd_asb rfl) rfl (Nat.le_of_ble_eq_true rfl) (by decide +kernel) (by decide) (by decide) (fun v1 h1 q1 n1 => ?_)
  obtain ⟨rfl, rfl⟩ := q1
  refine Run.pure hK (seg := [(10, .aload_n 0, 1)]) (by decide +kernel) (pc' := 11) (L' := #[.val (.ref x0), .val (.int x)]) (S' := [(.ref x0)]) rfl ?_
  refine Run.virtual hK (index := 83) (y := (⟨"java/lang/AbstractStringBuilder", "isLatin1", "()Z"⟩ : MethodName)) (z := (⟨"java/lang/AbstractStringBuilder", "isLatin1", "()Z"⟩ : MethodName)) (C := "java/lang/StringBuilder") (Wt := 0) (kc := 0) (ks := 0) (hw _ (List.mem_of_getElem? (i := 178) rfl)) (hw _ (List.mem_of_getElem? (i := 179) rfl)) (nfS (hw _ (List.mem_of_getElem? (i := 181) rfl))) (hw _ (List.mem_of_getElem? (i := 181) rfl)) (hw _ (List.mem_of_getElem? (i := 180) rfl)) (by decide) (a := x0) X (W' := []) (fun _ q => nomatch q) (Ctr.cal (c_il G x0 va h1 Sb) (hw _ (List.mem_of_getElem? (i := 182) rfl)) (hw _ (List.mem_of_getElem? (i := 153) rfl)) (by decide) (by decide)) rfl (argsL := []) (rest := []) (lenOf pd_z rfl) rfl (Nat.le_of_ble_eq_true rfl) (by decide +kernel) (by decide) (by decide) (fun v2 h2 q2 n2 => ?_)
  obtain ⟨rfl, rfl⟩ := q2
  refine Run.ifz hK (cd := .eq) (o := 31) (by decide +kernel) (by decide) (pc' := 45) rfl (fun q => by replace q := (h_eq _ _).1 q; exact absurd q (by decide)) (fun _ => ?_)
  refine Run.pure hK (seg := [(17, .iload_n 1, 1)]) (by decide +kernel) (pc' := 18) (L' := #[.val (.ref x0), .val (.int x)]) (S' := [(.int x)]) rfl ?_
  refine Run.static hK (index := 191) (y := (⟨"java/lang/StringLatin1", "canEncode", "(C)Z"⟩ : MethodName)) (Wt := 0) (kc := 0) (ks := 0) (hw _ (List.mem_of_getElem? (i := 183) rfl)) (hw _ (List.mem_of_getElem? (i := 184) rfl)) (hw _ (List.mem_of_getElem? (i := 73) rfl)) (hw _ (List.mem_of_getElem? (i := 185) rfl)) (by decide) (W' := []) (fun _ q => nomatch q) (Ctr.cal (c_can G x h2 hx.2) (hw _ (List.mem_of_getElem? (i := 185) rfl)) (hw _ (List.mem_of_getElem? (i := 73) rfl)) (by decide) (by decide)) rfl (argsL := [(.int x)]) (rest := []) (lenOf pd_cz rfl) rfl (Nat.le_of_ble_eq_true rfl) (by decide +kernel) (by decide) (by decide) (fun v3 h3 q3 n3 => ?_)
  obtain ⟨rfl, rfl⟩ := q3
  refine Run.ifz hK (cd := .eq) (o := 24) (by decide +kernel) (by decide) (pc' := 45) rfl (fun q => by replace q := (h_eq _ _).1 q; exact absurd q (by decide)) (fun _ => ?_)
  refine Run.pure hK (seg := [(24, .aload_n 0, 1)]) (by decide +kernel) (pc' := 25) (L' := #[.val (.ref x0), .val (.int x)]) (S' := [(.ref x0)]) rfl ?_
  refine Run.getf hK (index := 15) (host := "") (Or.inl (hw _ (List.mem_of_getElem? (i := 157) rfl))) Via.refl Fv (by decide +kernel) ?_
  refine Run.pure hK (seg := [(28, .aload_n 0, 1), (29, .dup, 1)]) (by decide +kernel) (pc' := 30) (L' := #[.val (.ref x0), .val (.int x)]) (S' := [(.ref x0), (.ref x0), (.ref va)]) rfl ?_
  refine Run.getf hK (index := 79) (host := "") (Or.inl (hw _ (List.mem_of_getElem? (i := 171) rfl))) Via.refl Fn (by decide +kernel) ?_
  refine Run.pure hK (seg := [(33, .dup_x1, 1), (34, .iconst 1, 1), (35, .iadd, 1)]) (by decide +kernel) (pc' := 36) (L' := #[.val (.ref x0), .val (.int x)]) (S' := [(.int ((Int32.ofNat ds.length) + (1 : Int32))), (.ref x0), (.int (Int32.ofNat ds.length)), (.ref va)]) rfl ?_
  rw [show Int32.ofNat ds.length + (1 : Int32) = Int32.ofNat (ds.length + 1) from ofN_add (n := ds.length) (m := 1) (by omega)]
  refine Run.putf hK (index := 79) (host := "") (Or.inl (hw _ (List.mem_of_getElem? (i := 171) rfl))) Via.refl Fn X (Or.inl (hw _ (List.mem_of_getElem? (i := 172) rfl))) (hw _ (List.mem_of_getElem? (i := 144) rfl)) (ty := .int) (by decide) rfl rfl g1 (sfE X (by decide) (by decide)) (by decide +kernel) (fun h4 W4 => ?_)
  replace Fv := Fv.other W4 (Or.inr (slot_ne (Or.inl (hw _ (List.mem_of_getElem? (i := 158) rfl))) (Or.inl (hw _ (List.mem_of_getElem? (i := 172) rfl))) (by decide) (by decide : parseFieldDescriptor "[B" = some (.array .byte)) (by decide : parseFieldDescriptor "I" = some .int)))
  replace Fc := Fc.other W4 (Or.inr (slot_ne (Or.inl (hw _ (List.mem_of_getElem? (i := 160) rfl))) (Or.inl (hw _ (List.mem_of_getElem? (i := 172) rfl))) (by decide) (by decide : parseFieldDescriptor "B" = some .byte) (by decide : parseFieldDescriptor "I" = some .int)))
  replace Fn := Fn.same W4
  replace X := X.wr W4
  replace Av := Av.other W4 nxv.symm
  refine Run.pure hK (seg := [(39, .iload_n 1, 1), (40, .i2b, 1)]) (by decide +kernel) (pc' := 41) (L' := #[.val (.ref x0), .val (.int x)]) (S' := [(.int x.toInt8.toInt32), (.int (Int32.ofNat ds.length)), (.ref va)]) rfl ?_
  refine Run.bst hK Av ⟨ofN_nn (by omega), (ofN_lt2 (by omega) (by omega)).mpr (by omega)⟩ g2 (sfW (List.mem_singleton.mpr rfl)) (by decide +kernel) (fun h5 W5 Bv => ?_)
  have Av5 : Arv Z h5 va k .byte (Int32.ofNat cap) (((ds ++ [x]).map StrChars.lo8).map Value.int) (.int 0) := by
    rw [List.map_append, List.map_append]; rw [ofN_nat (by omega : ds.length ≤ 4000), ofN_nat (by omega : cap ≤ 4000), lo8_lo8] at Bv
    exact Bv.pad (fun i => by have q := snoc_pad (vs := ((ds.map StrChars.lo8).map Value.int)) (n := cap) (.int 0) (.int (StrChars.lo8 x)) (by rw [lens]; omega) i; rw [lens] at q; exact q)
  replace Fv := Fv.other W5 (Or.inl nxv)
  replace Fc := Fc.other W5 (Or.inl nxv)
  replace Fn := Fn.other W5 (Or.inl nxv)
  replace X := X.wr W5
  have KK := ((Keep.refl _ [x0, va]).wr W4 (Or.inl (by simp))).wr W5 (Or.inl (by simp))
  have ll : (ds ++ [x]).length = ds.length + 1 := by simp
  rw [← ll] at Fn
  refine Run.pure hK (seg := [(42, .goto 33, 3), (75, .aload_n 0, 1)]) (by decide +kernel) (pc' := 76) (L' := #[.val (.ref x0), .val (.int x)]) (S' := [(.ref x0)]) rfl ?_
  exact Run.retw hK (i := .areturn) rfl (Or.inr (Or.inr (Or.inr (Or.inr ⟨rfl, rfl, rfl⟩)))) (by decide +kernel) (by decide) (by decide) ⟨rfl, ⟨X, Fv, Fc, Fn, Av5, g1, g2, by rw [ll]; exact hc, hcap, fun c hc => (List.mem_append.mp hc).elim (g5 c) (fun z => by cases List.mem_singleton.mp z; exact hx)⟩, KK⟩
set_option maxRecDepth 65536 in
set_option maxHeartbeats 40000000 in
theorem c_sac {l : Launch} {Z : State} {a0 : Array Value} {z0 : Int32} {fm : Value} (G : Env1 Z a0 z0 fm) (x0 va : Addr) (x : Int32) {ds : List Int32} {k : ClassId} {cap : Nat} (h : Heap) (Sb : SBo Z h x0 va k cap ds) (hx : ¬ x < 0 ∧ ¬ (255 : Int32) < x) (hc : ds.length + 1 ≤ cap) : Ctr Z consts_1 true l [] (⟨"java/lang/StringBuilder", "append", "(C)Ljava/lang/StringBuilder;"⟩ : MethodName) jdk_67_method_14_code 2 (some (.object "java/lang/StringBuilder")) ({ frames := 3, cells := 0, slots := 0, locals := 56 } : Room) #[(.ref x0), (.int x)] h [va] (fun v h' => v = some (.ref x0) ∧ SBo Z h' x0 va k cap (ds ++ [x]) ∧ Keep h h' [x0, va]) := by
  obtain ⟨hw, hEL, O2, P5, O4⟩ := id G
  refine Ctr.of_run (a0 := a0) (L0 := #[.val (.ref x0), .val (.int x)]) (plainFor_of_name pn_sb) hEL (by first | (simp [argsToLocals, Value.category, maxLocals]; done) | rfl) (fun K hK => ?_)
  refine Run.pure hK (seg := [(0, .aload_n 0, 1), (1, .iload_n 1, 1)]) (by decide +kernel) (pc' := 2) (L' := #[.val (.ref x0), .val (.int x)]) (S' := [(.int x), (.ref x0)]) rfl ?_
  refine Run.up hK (index := 50) (y := (⟨"java/lang/AbstractStringBuilder", "append", "(C)Ljava/lang/AbstractStringBuilder;"⟩ : MethodName)) (Wt := 0) (kc := 0) (ks := 0) (by decide) (hw _ (List.mem_of_getElem? (i := 166) rfl)) (sm_of (hw _ (List.mem_of_getElem? (i := 176) rfl)) (hw _ (List.mem_of_getElem? (i := 174) rfl)) (hw _ (List.mem_of_getElem? (i := 167) rfl)) rfl (by decide)) (hw _ (List.mem_of_getElem? (i := 167) rfl)) (hw _ (List.mem_of_getElem? (i := 168) rfl)) (hw _ (List.mem_of_getElem? (i := 170) rfl)) (a := x0) (Ins.self Sb.1) (fun _ q => q) (Ctr.cal (c_aac G x0 va x h Sb hx hc) (hw _ (List.mem_of_getElem? (i := 170) rfl)) (hw _ (List.mem_of_getElem? (i := 153) rfl)) (by decide) (by decide)) rfl (argsL := [(.int x)]) (rest := []) (lenOf pd_aac rfl) rfl (Nat.le_of_ble_eq_true rfl) (by decide +kernel) (by decide) (by decide) (fun v1 h1 q1 n1 => ?_)
  obtain ⟨rfl, q⟩ := q1
  refine Run.pure hK (seg := [(5, .pop, 1), (6, .aload_n 0, 1)]) (by decide +kernel) (pc' := 7) (L' := #[.val (.ref x0), .val (.int x)]) (S' := [(.ref x0)]) rfl ?_
  exact Run.retw hK (i := .areturn) rfl (Or.inr (Or.inr (Or.inr (Or.inr ⟨rfl, rfl, rfl⟩)))) (by decide +kernel) (by decide) (by decide) ⟨rfl, q⟩
set_option maxRecDepth 65536 in
set_option maxHeartbeats 40000000 in
theorem c_minf {l : Launch} {Z : State} {a0 : Array Value} {z0 : Int32} {fm : Value} (G : Env1 Z a0 z0 fm) (x y : Int32) (h : Heap) : Ctr Z consts_1 false l [] (⟨"java/lang/Math", "min", "(II)I"⟩ : MethodName) jdk_29_method_69_code 2 (some .int) ({ frames := 0, cells := 0, slots := 0, locals := 0 } : Room) #[(.int x), (.int y)] h [] (fun v h' => h' = h ∧ v = some (.int (if y < x then y else x))) := by
  obtain ⟨hw, hEL, O2, P5, O4⟩ := id G
  refine Ctr.of_run (a0 := a0) (L0 := #[.val (.int x), .val (.int y)]) (Jvm.Free.JP.mathPlain rfl (by decide +kernel)) hEL (by first | (simp [argsToLocals, Value.category, maxLocals]; done) | rfl) (fun K hK => ?_)
  refine Run.pure hK (seg := [(0, .iload_n 0, 1), (1, .iload_n 1, 1)]) (by decide +kernel) (pc' := 2) (L' := #[.val (.int x), .val (.int y)]) (S' := [(.int y), (.int x)]) rfl ?_
  refine Run.icmp hK (cd := .gt) (o := 7) (by decide +kernel) (by decide) (pc' := 9) rfl (fun q => ?_) (fun q => ?_)
  · replace q := (h_gt _ _).1 q
    refine Run.pure hK (seg := [(9, .iload_n 1, 1)]) (by decide +kernel) (pc' := 10) (L' := #[.val (.int x), .val (.int y)]) (S' := [(.int y)]) rfl ?_
    exact Run.retw hK (i := .ireturn) rfl (Or.inl ⟨rfl, Or.inl rfl, _, rfl⟩) (by decide +kernel) (by decide) (by decide) ⟨rfl, by rw [if_pos q]⟩
  · replace q := (h_gt _ _).2 q
    refine Run.pure hK (seg := [(5, .iload_n 0, 1), (6, .goto 4, 3)]) (by decide +kernel) (pc' := 10) (L' := #[.val (.int x), .val (.int y)]) (S' := [(.int x)]) rfl ?_
    exact Run.retw hK (i := .ireturn) rfl (Or.inl ⟨rfl, Or.inl rfl, _, rfl⟩) (by decide +kernel) (by decide) (by decide) ⟨rfl, by rw [if_neg q]⟩
set_option maxRecDepth 65536 in
set_option maxHeartbeats 40000000 in
theorem c_codf {l : Launch} {Z : State} {a0 : Array Value} {z0 : Int32} {fm : Value} (G : Env1 Z a0 z0 fm) (x : Addr) {cs : List Int32} (h : Heap) (F : Str Z h x cs) : Ctr Z consts_1 false l [] (⟨"java/lang/String", "coder", "()B"⟩ : MethodName) jdk_42_method_152_code 1 (some .byte) ({ frames := 0, cells := 0, slots := 0, locals := 0 } : Room) #[(.ref x)] h [] (fun v h' => h' = h ∧ v = some (.int 0)) := by
  obtain ⟨hw, hEL, O2, P5, O4⟩ := id G
  refine Ctr.of_run (a0 := a0) (L0 := #[.val (.ref x)]) (plainFor_of_name pn_str) hEL (by first | (simp [argsToLocals, Value.category, maxLocals]; done) | rfl) (fun K hK => ?_)
  obtain ⟨f1, f2, -⟩ := F
  refine Run.old (fun hO => ?_)
  refine Run.gets hK (index := 38) (hw _ (List.mem_of_getElem? (i := 31) rfl)) Via.refl (O2.ext hO) (by decide +kernel) ?_
  refine Run.ifz hK (cd := .eq) (o := 10) (by decide +kernel) (by decide) (pc' := 13) rfl (fun q => by replace q := (h_eq _ _).1 q; exact absurd q P5) (fun _ => ?_)
  refine Run.pure hK (seg := [(6, .aload_n 0, 1)]) (by decide +kernel) (pc' := 7) (L' := #[.val (.ref x)]) (S' := [(.ref x)]) rfl ?_
  refine Run.getf hK (index := 15) (host := "") (Or.inl (hw _ (List.mem_of_getElem? (i := 43) rfl))) Via.refl f2 (by decide +kernel) ?_
  refine Run.pure hK (seg := [(10, .goto 4, 3)]) (by decide +kernel) (pc' := 14) (L' := #[.val (.ref x)]) (S' := [(.int (0 : Int32))]) rfl ?_
  exact Run.retw hK (i := .ireturn) rfl (Or.inl ⟨rfl, Or.inr (Or.inr (Or.inl rfl)), _, rfl⟩) (by decide +kernel) (by decide) (by decide) ⟨rfl, rfl⟩
set_option maxRecDepth 65536 in
set_option maxHeartbeats 40000000 in
theorem c_isl {l : Launch} {Z : State} {a0 : Array Value} {z0 : Int32} {fm : Value} (G : Env1 Z a0 z0 fm) (x : Addr) {cs : List Int32} (h : Heap) (F : Str Z h x cs) : Ctr Z consts_1 false l [] (⟨"java/lang/String", "isLatin1", "()Z"⟩ : MethodName) jdk_42_method_154_code 1 (some .boolean) ({ frames := 0, cells := 0, slots := 0, locals := 0 } : Room) #[(.ref x)] h [] (fun v h' => h' = h ∧ v = some (.int 1)) := by
  obtain ⟨hw, hEL, O2, P5, O4⟩ := id G
  refine Ctr.of_run (a0 := a0) (L0 := #[.val (.ref x)]) (plainFor_of_name pn_str) hEL (by first | (simp [argsToLocals, Value.category, maxLocals]; done) | rfl) (fun K hK => ?_)
  obtain ⟨f1, f2, -⟩ := F
  refine Run.old (fun hO => ?_)
  refine Run.gets hK (index := 38) (hw _ (List.mem_of_getElem? (i := 31) rfl)) Via.refl (O2.ext hO) (by decide +kernel) ?_
  refine Run.ifz hK (cd := .eq) (o := 14) (by decide +kernel) (by decide) (pc' := 17) rfl (fun q => by replace q := (h_eq _ _).1 q; exact absurd q P5) (fun _ => ?_)
  refine Run.pure hK (seg := [(6, .aload_n 0, 1)]) (by decide +kernel) (pc' := 7) (L' := #[.val (.ref x)]) (S' := [(.ref x)]) rfl ?_
  refine Run.getf hK (index := 15) (host := "") (Or.inl (hw _ (List.mem_of_getElem? (i := 43) rfl))) Via.refl f2 (by decide +kernel) ?_
  refine Run.ifz hK (cd := .ne) (o := 7) (by decide +kernel) (by decide) (pc' := 17) rfl (fun q => by replace q := (h_ne _ _).1 q; exact absurd rfl q) (fun _ => ?_)
  refine Run.pure hK (seg := [(13, .iconst 1, 1), (14, .goto 4, 3)]) (by decide +kernel) (pc' := 18) (L' := #[.val (.ref x)]) (S' := [(.int (1 : Int32))]) rfl ?_
  exact Run.retw hK (i := .ireturn) rfl (Or.inl ⟨rfl, Or.inr (Or.inl rfl), _, rfl⟩) (by decide +kernel) (by decide) (by decide) ⟨rfl, rfl⟩
set_option maxRecDepth 65536 in
set_option maxHeartbeats 40000000 in
theorem c_ftx {l : Launch} {Z : State} {a0 : Array Value} {z0 : Int32} {fm : Value} (G : Env1 Z a0 z0 fm) (f e n : Nat) (h : Heap) (p1 : f ≤ e) (p2 : e ≤ n) (p3 : n ≤ 4000) : Ctr Z consts_1 false l [] (⟨"jdk/internal/util/Preconditions", "checkFromToIndex", "(IIILjava/util/function/BiFunction;)I"⟩ : MethodName) jdk_41_method_12_code 4 (some .int) ({ frames := 0, cells := 0, slots := 0, locals := 0 } : Room) #[(.int (Int32.ofNat f)), (.int (Int32.ofNat e)), (.int (Int32.ofNat n)), fm] h [] (fun v h' => h' = h ∧ ∃ r, v = some (.int r)) := by
  obtain ⟨hw, hEL, O2, P5, O4⟩ := id G
  rcases ref_cases O4.2 with rfl | ⟨af, rfl⟩
  · refine Ctr.of_run (a0 := a0) (L0 := #[.val (.int (Int32.ofNat f)), .val (.int (Int32.ofNat e)), .val (.int (Int32.ofNat n)), .val .null]) (plainFor_of_name pn_pc) hEL (by first | (simp [argsToLocals, Value.category, maxLocals]; done) | rfl) (fun K hK => ?_)
    refine Run.pure hK (seg := [(0, .iload_n 0, 1)]) (by decide +kernel) (pc' := 1) (L' := #[.val (.int (Int32.ofNat f)), .val (.int (Int32.ofNat e)), .val (.int (Int32.ofNat n)), .val .null]) (S' := [(.int (Int32.ofNat f))]) rfl ?_
    refine Run.ifz hK (cd := .lt) (o := 13) (by decide +kernel) (by decide) (pc' := 14) rfl (fun q => by replace q := (h_lt _ _).1 q; exact absurd q (ofN_nn (by omega))) (fun _ => ?_)
    refine Run.pure hK (seg := [(4, .iload_n 0, 1), (5, .iload_n 1, 1)]) (by decide +kernel) (pc' := 6) (L' := #[.val (.int (Int32.ofNat f)), .val (.int (Int32.ofNat e)), .val (.int (Int32.ofNat n)), .val .null]) (S' := [(.int (Int32.ofNat e)), (.int (Int32.ofNat f))]) rfl ?_
    refine Run.icmp hK (cd := .gt) (o := 8) (by decide +kernel) (by decide) (pc' := 14) rfl (fun q => by replace q := (h_gt _ _).1 q; rw [ofN_lt2 (by omega) (by omega)] at q; omega) (fun _ => ?_)
    refine Run.pure hK (seg := [(9, .iload_n 1, 1), (10, .iload_n 2, 1)]) (by decide +kernel) (pc' := 11) (L' := #[.val (.int (Int32.ofNat f)), .val (.int (Int32.ofNat e)), .val (.int (Int32.ofNat n)), .val .null]) (S' := [(.int (Int32.ofNat n)), (.int (Int32.ofNat e))]) rfl ?_
    refine Run.icmp hK (cd := .le) (o := 11) (by decide +kernel) (by decide) (pc' := 22) rfl (fun _ => ?_) (fun q => by replace q := (h_le _ _).2 q; rw [ofN_lt2 (by omega) (by omega)] at q; omega)
    refine Run.pure hK (seg := [(22, .iload_n 0, 1)]) (by decide +kernel) (pc' := 23) (L' := #[.val (.int (Int32.ofNat f)), .val (.int (Int32.ofNat e)), .val (.int (Int32.ofNat n)), .val .null]) (S' := [(.int (Int32.ofNat f))]) rfl ?_
    exact Run.retw hK (i := .ireturn) rfl (Or.inl ⟨rfl, Or.inl rfl, _, rfl⟩) (by decide +kernel) (by decide) (by decide) ⟨rfl, _, rfl⟩
  · refine Ctr.of_run (a0 := a0) (L0 := #[.val (.int (Int32.ofNat f)), .val (.int (Int32.ofNat e)), .val (.int (Int32.ofNat n)), .val (.ref af)]) (plainFor_of_name pn_pc) hEL (by first | (simp [argsToLocals, Value.category, maxLocals]; done) | rfl) (fun K hK => ?_)
    refine Run.pure hK (seg := [(0, .iload_n 0, 1)]) (by decide +kernel) (pc' := 1) (L' := #[.val (.int (Int32.ofNat f)), .val (.int (Int32.ofNat e)), .val (.int (Int32.ofNat n)), .val (.ref af)]) (S' := [(.int (Int32.ofNat f))]) rfl ?_
    refine Run.ifz hK (cd := .lt) (o := 13) (by decide +kernel) (by decide) (pc' := 14) rfl (fun q => by replace q := (h_lt _ _).1 q; exact absurd q (ofN_nn (by omega))) (fun _ => ?_)
    refine Run.pure hK (seg := [(4, .iload_n 0, 1), (5, .iload_n 1, 1)]) (by decide +kernel) (pc' := 6) (L' := #[.val (.int (Int32.ofNat f)), .val (.int (Int32.ofNat e)), .val (.int (Int32.ofNat n)), .val (.ref af)]) (S' := [(.int (Int32.ofNat e)), (.int (Int32.ofNat f))]) rfl ?_
    refine Run.icmp hK (cd := .gt) (o := 8) (by decide +kernel) (by decide) (pc' := 14) rfl (fun q => by replace q := (h_gt _ _).1 q; rw [ofN_lt2 (by omega) (by omega)] at q; omega) (fun _ => ?_)
    refine Run.pure hK (seg := [(9, .iload_n 1, 1), (10, .iload_n 2, 1)]) (by decide +kernel) (pc' := 11) (L' := #[.val (.int (Int32.ofNat f)), .val (.int (Int32.ofNat e)), .val (.int (Int32.ofNat n)), .val (.ref af)]) (S' := [(.int (Int32.ofNat n)), (.int (Int32.ofNat e))]) rfl ?_
    refine Run.icmp hK (cd := .le) (o := 11) (by decide +kernel) (by decide) (pc' := 22) rfl (fun _ => ?_) (fun q => by replace q := (h_le _ _).2 q; rw [ofN_lt2 (by omega) (by omega)] at q; omega)
    refine Run.pure hK (seg := [(22, .iload_n 0, 1)]) (by decide +kernel) (pc' := 23) (L' := #[.val (.int (Int32.ofNat f)), .val (.int (Int32.ofNat e)), .val (.int (Int32.ofNat n)), .val (.ref af)]) (S' := [(.int (Int32.ofNat f))]) rfl ?_
    exact Run.retw hK (i := .ireturn) rfl (Or.inl ⟨rfl, Or.inl rfl, _, rfl⟩) (by decide +kernel) (by decide) (by decide) ⟨rfl, _, rfl⟩
set_option maxRecDepth 65536 in
set_option maxHeartbeats 40000000 in
theorem c_cfb {l : Launch} {Z : State} {a0 : Array Value} {z0 : Int32} {fm : Value} (G : Env1 Z a0 z0 fm) (f e n : Nat) (h : Heap) (p1 : f ≤ e) (p2 : e ≤ n) (p3 : n ≤ 4000) : Ctr Z consts_1 false l [] (⟨"java/lang/String", "checkBoundsBeginEnd", "(III)V"⟩ : MethodName) jdk_42_method_158_code 3 none ({ frames := 1, cells := 0, slots := 0, locals := 16 } : Room) #[(.int (Int32.ofNat f)), (.int (Int32.ofNat e)), (.int (Int32.ofNat n))] h [] (fun v h' => h' = h ∧ v = none) := by
  obtain ⟨hw, hEL, O2, P5, O4⟩ := id G
  refine Ctr.of_run (a0 := a0) (L0 := #[.val (.int (Int32.ofNat f)), .val (.int (Int32.ofNat e)), .val (.int (Int32.ofNat n))]) (plainFor_of_name pn_str) hEL (by first | (simp [argsToLocals, Value.category, maxLocals]; done) | rfl) (fun K hK => ?_)
  refine Run.old (fun hO => ?_)
  refine Run.pure hK (seg := [(0, .iload_n 0, 1), (1, .iload_n 1, 1), (2, .iload_n 2, 1)]) (by decide +kernel) (pc' := 3) (L' := #[.val (.int (Int32.ofNat f)), .val (.int (Int32.ofNat e)), .val (.int (Int32.ofNat n))]) (S' := [(.int (Int32.ofNat n)), (.int (Int32.ofNat e)), (.int (Int32.ofNat f))]) rfl ?_
  refine Run.gets hK (index := 1053) (hw _ (List.mem_of_getElem? (i := 78) rfl)) Via.refl (O4.1.ext hO) (by decide +kernel) ?_
  refine Run.static hK (index := 1062) (y := (⟨"jdk/internal/util/Preconditions", "checkFromToIndex", "(IIILjava/util/function/BiFunction;)I"⟩ : MethodName)) (Wt := 0) (kc := 0) (ks := 0) (hw _ (List.mem_of_getElem? (i := 95) rfl)) (hw _ (List.mem_of_getElem? (i := 96) rfl)) (hw _ (List.mem_of_getElem? (i := 79) rfl)) (hw _ (List.mem_of_getElem? (i := 97) rfl)) (by decide) (W' := []) (fun _ q => nomatch q) (Ctr.cal (c_ftx G f e n h p1 p2 p3) (hw _ (List.mem_of_getElem? (i := 97) rfl)) (hw _ (List.mem_of_getElem? (i := 79) rfl)) (by decide) (by decide)) rfl (argsL := [(.int (Int32.ofNat f)), (.int (Int32.ofNat e)), (.int (Int32.ofNat n)), fm]) (rest := []) (lenOf pd_ftx rfl) rfl (Nat.le_of_ble_eq_true rfl) (by decide +kernel) (by decide) (by decide) (fun v1 h1 q1 n1 => ?_)
  obtain ⟨rfl, r, rfl⟩ := q1
  refine Run.pure hK (seg := [(9, .pop, 1)]) (by decide +kernel) (pc' := 10) (L' := #[.val (.int (Int32.ofNat f)), .val (.int (Int32.ofNat e)), .val (.int (Int32.ofNat n))]) (S' := []) rfl ?_
  exact Run.retv hK (by decide +kernel) (by decide) (by decide) ⟨rfl, rfl⟩
set_option maxRecDepth 65536 in
set_option maxHeartbeats 40000000 in
theorem c_ckg {l : Launch} {Z : State} {a0 : Array Value} {z0 : Int32} {fm : Value} (G : Env1 Z a0 z0 fm) (f e : Nat) (h : Heap) (p1 : f ≤ e) (p3 : e ≤ 4000) : Ctr Z consts_1 false l [] (⟨"java/util/Arrays", "checkLength", "(II)V"⟩ : MethodName) jdk_65_method_131_code 2 none ({ frames := 0, cells := 0, slots := 0, locals := 0 } : Room) #[(.int (Int32.ofNat f)), (.int (Int32.ofNat e))] h [] (fun v h' => h' = h ∧ v = none) := by
  obtain ⟨hw, hEL, O2, P5, O4⟩ := id G
  refine Ctr.of_run (a0 := a0) (L0 := #[.val (.int (Int32.ofNat f)), .val (.int (Int32.ofNat e))]) (plainFor_of_name pn_ar) hEL (by first | (simp [argsToLocals, Value.category, maxLocals]; done) | rfl) (fun K hK => ?_)
  refine Run.pure hK (seg := [(0, .iload_n 1, 1), (1, .iload_n 0, 1)]) (by decide +kernel) (pc' := 2) (L' := #[.val (.int (Int32.ofNat f)), .val (.int (Int32.ofNat e))]) (S' := [(.int (Int32.ofNat f)), (.int (Int32.ofNat e))]) rfl ?_
  refine Run.icmp hK (cd := .ge) (o := 35) (by decide +kernel) (by decide) (pc' := 37) rfl (fun _ => ?_) (fun q => by replace q := (h_ge _ _).2 q; rw [ofN_lt2 (by omega) (by omega)] at q; omega)
  exact Run.retv hK (by decide +kernel) (by decide) (by decide) ⟨rfl, rfl⟩
set_option maxRecDepth 65536 in
set_option maxHeartbeats 40000000 in
theorem c_crg {l : Launch} {Z : State} {a0 : Array Value} {z0 : Int32} {fm : Value} (G : Env1 Z a0 z0 fm) (va : Addr) (f e : Nat) {vs : List Value} {k : ClassId} (h : Heap) (A : Arv Z h va k .byte (Int32.ofNat vs.length) vs (.int 0)) (p1 : f ≤ e) (p2 : e ≤ vs.length) (hne : ¬ (f = 0 ∧ e = vs.length)) (p3 : vs.length ≤ 8) : Ctr Z consts_1 false l [] (⟨"java/util/Arrays", "copyOfRangeByte", "([BII)[B"⟩ : MethodName) jdk_65_method_133_code 5 (some (.array .byte)) ({ frames := 1, cells := 1, slots := 8, locals := 24 } : Room) #[(.ref va), (.int (Int32.ofNat f)), (.int (Int32.ofNat e))] h [] (fun v h' => ∃ a k', v = some (.ref a) ∧ Arv Z h' a k' .byte (Int32.ofNat (e - f)) ((vs.take e).drop f) (.int 0) ∧ Ext h h') := by
  obtain ⟨hw, hEL, O2, P5, O4⟩ := id G
  refine Ctr.of_run (a0 := a0) (L0 := #[.val (.ref va), .val (.int (Int32.ofNat f)), .val (.int (Int32.ofNat e)), .unset, .unset]) (plainFor_of_name pn_ar) hEL (by first | (simp [argsToLocals, Value.category, maxLocals]; done) | rfl) (fun K hK => ?_)
  refine Run.old (fun hO => ?_)
  refine Run.pure hK (seg := [(0, .iload_n 1, 1), (1, .iload_n 2, 1)]) (by decide +kernel) (pc' := 2) (L' := #[.val (.ref va), .val (.int (Int32.ofNat f)), .val (.int (Int32.ofNat e)), .unset, .unset]) (S' := [(.int (Int32.ofNat e)), (.int (Int32.ofNat f))]) rfl ?_
  refine Run.static hK (index := 343) (y := (⟨"java/util/Arrays", "checkLength", "(II)V"⟩ : MethodName)) (Wt := 0) (kc := 0) (ks := 0) (hw _ (List.mem_of_getElem? (i := 109) rfl)) (hw _ (List.mem_of_getElem? (i := 110) rfl)) (hw _ (List.mem_of_getElem? (i := 104) rfl)) (hw _ (List.mem_of_getElem? (i := 111) rfl)) (by decide) (W' := []) (fun _ q => nomatch q) (Ctr.cal (c_ckg G f e h p1 (by omega)) (hw _ (List.mem_of_getElem? (i := 111) rfl)) (hw _ (List.mem_of_getElem? (i := 104) rfl)) (by decide) (by decide)) rfl (argsL := [(.int (Int32.ofNat f)), (.int (Int32.ofNat e))]) (rest := []) (lenOf pd_ck rfl) rfl (Nat.le_of_ble_eq_true rfl) (by decide +kernel) (by decide) (by decide) (fun v1 h1 q1 n1 => ?_)
  obtain ⟨rfl, rfl⟩ := q1
  refine Run.pure hK (seg := [(5, .iload_n 2, 1), (6, .iload_n 1, 1), (7, .isub, 1)]) (by decide +kernel) (pc' := 8) (L' := #[.val (.ref va), .val (.int (Int32.ofNat f)), .val (.int (Int32.ofNat e)), .unset, .unset]) (S' := [(.int ((Int32.ofNat e) - (Int32.ofNat f)))]) rfl ?_
  rw [ofN_sub (by omega) p1]
  refine Run.pure hK (seg := [(8, .istore_n 3, 1), (9, .iload_n 3, 1)]) (by decide +kernel) (pc' := 10) (L' := #[.val (.ref va), .val (.int (Int32.ofNat f)), .val (.int (Int32.ofNat e)), .val (.int (Int32.ofNat (e - f))), .unset]) (S' := [(.int (Int32.ofNat (e - f)))]) rfl ?_
  refine Run.newarr hK (aty := .byte) (hw _ (List.mem_of_getElem? (i := 36) rfl)) (by decide +kernel) (ofN_nn (by omega)) (cap := 8) (by rw [ofN_nat (by omega)]; omega) (by decide) (by decide) (by decide) (fun hr kr Er Ar => ?_)
  obtain ⟨ar, zr⟩ : ∃ z, z = h1.size := ⟨_, rfl⟩
  rw [← zr]
  rw [← zr] at Ar
  refine Run.pure hK (seg := [(12, .astore 4, 2), (14, .aload_n 0, 1), (15, .iload_n 1, 1), (16, .aload 4, 2), (18, .iconst 0, 1), (19, .aload_n 0, 1)]) (by decide +kernel) (pc' := 20) (L' := #[.val (.ref va), .val (.int (Int32.ofNat f)), .val (.int (Int32.ofNat e)), .val (.int (Int32.ofNat (e - f))), .val (.ref ar)]) (S' := [(.ref va), (.int (0 : Int32)), (.ref ar), (.int (Int32.ofNat f)), (.ref va)]) rfl ?_
  refine Run.alen hK (A.ext Er) (by decide +kernel) ?_
  refine Run.pure hK (seg := [(21, .iload_n 1, 1), (22, .isub, 1)]) (by decide +kernel) (pc' := 23) (L' := #[.val (.ref va), .val (.int (Int32.ofNat f)), .val (.int (Int32.ofNat e)), .val (.int (Int32.ofNat (e - f))), .val (.ref ar)]) (S' := [(.int ((Int32.ofNat vs.length) - (Int32.ofNat f))), (.int (0 : Int32)), (.ref ar), (.int (Int32.ofNat f)), (.ref va)]) rfl ?_
  rw [ofN_sub (by omega) (by omega)]
  refine Run.pure hK (seg := [(23, .iload_n 3, 1)]) (by decide +kernel) (pc' := 24) (L' := #[.val (.ref va), .val (.int (Int32.ofNat f)), .val (.int (Int32.ofNat e)), .val (.int (Int32.ofNat (e - f))), .val (.ref ar)]) (S' := [(.int (Int32.ofNat (e - f))), (.int (Int32.ofNat (vs.length - f))), (.int (0 : Int32)), (.ref ar), (.int (Int32.ofNat f)), (.ref va)]) rfl ?_
  refine Run.static hK (index := 304) (y := (⟨"java/lang/Math", "min", "(II)I"⟩ : MethodName)) (Wt := 4) (kc := 0) (ks := 0) (hw _ (List.mem_of_getElem? (i := 112) rfl)) (hw _ (List.mem_of_getElem? (i := 113) rfl)) (hw _ (List.mem_of_getElem? (i := 114) rfl)) (hw _ (List.mem_of_getElem? (i := 115) rfl)) (by decide) (W' := []) (fun _ q => nomatch q) (Ctr.cal (c_minf G (Int32.ofNat (vs.length - f)) (Int32.ofNat (e - f)) hr) (hw _ (List.mem_of_getElem? (i := 115) rfl)) (hw _ (List.mem_of_getElem? (i := 114) rfl)) (by decide) (by decide)) rfl (argsL := [(.int (Int32.ofNat (vs.length - f))), (.int (Int32.ofNat (e - f)))]) (rest := [(.int (0 : Int32)), (.ref ar), (.int (Int32.ofNat f)), (.ref va)]) (lenOf pd_min rfl) rfl (Nat.le_of_ble_eq_true rfl) (by decide +kernel) (by decide) (by decide) (fun v2 h2 q2 n2 => ?_)
  obtain ⟨rfl, rfl⟩ := q2
  rw [min_val (by omega) (by omega)]
  have P : Arv Z h2 ar kr .byte (Int32.ofNat (e - f)) (List.replicate (e - f) (.int 0)) (.int 0) := Ar.pad (fun i => by rw [List.getD_eq_getElem?_getD, List.getElem?_replicate]; split <;> rfl)
  refine Run.cpy hK (index := 150) (hw _ (List.mem_of_getElem? (i := 116) rfl)) (hw _ (List.mem_of_getElem? (i := 119) rfl)) (hw _ (List.mem_of_getElem? (i := 117) rfl)) (hw _ (List.mem_of_getElem? (i := 118) rfl)) (A.ext Er) P rfl (ofN_nn (by omega)) (by decide) (ofN_nn (by omega)) (by rw [ofN_nat (by omega), ofN_nat (by omega), ofN_nat (by omega)]; omega) (by show 0 + _ ≤ _; omega) (us := (List.range (e - f)).map fun i => vs.getD (f + i) (.int 0)) (by rw [ofN_nat (by omega), ofN_nat (by omega)]) (by rw [ofN_nat (by omega), List.length_replicate]; show 0 + _ ≤ _; omega) (by rw [zr]; exact hO.1) (sfW (List.mem_cons_self ..)) rfl (by decide +kernel) (by decide) (Wt := 0) (Nat.le_of_ble_eq_true rfl) (by decide) (fun h3 K3 B3 => ?_)
  have Af : Arv Z h3 ar kr .byte (Int32.ofNat (e - f)) ((vs.take e).drop f) (.int 0) := by
    rw [ofN_nat (by omega : e - f ≤ 4000)] at B3
    exact B3.pad (cp_sub (.int 0) p1 p2)
  refine Run.pure hK (seg := [(30, .aload 4, 2)]) (by decide +kernel) (pc' := 32) (L' := #[.val (.ref va), .val (.int (Int32.ofNat f)), .val (.int (Int32.ofNat e)), .val (.int (Int32.ofNat (e - f))), .val (.ref ar)]) (S' := [(.ref ar)]) rfl ?_
  exact Run.retw hK (i := .areturn) rfl (Or.inr (Or.inr (Or.inr (Or.inr ⟨rfl, rfl, rfl⟩)))) (by decide +kernel) (by decide) (by decide) ⟨ar, kr, rfl, Af, ext_keep Er K3 (fun x hx => by cases List.mem_singleton.mp hx; rw [zr]; exact Nat.le_refl _)⟩
set_option maxRecDepth 65536 in
set_option maxHeartbeats 40000000 in
theorem c_cog {l : Launch} {Z : State} {a0 : Array Value} {z0 : Int32} {fm : Value} (G : Env1 Z a0 z0 fm) (va : Addr) (f e : Nat) {vs : List Value} {k : ClassId} (h : Heap) (A : Arv Z h va k .byte (Int32.ofNat vs.length) vs (.int 0)) (p1 : f ≤ e) (p2 : e ≤ vs.length) (hne : ¬ (f = 0 ∧ e = vs.length)) (p3 : vs.length ≤ 8) : Ctr Z consts_1 false l [] (⟨"java/util/Arrays", "copyOfRange", "([BII)[B"⟩ : MethodName) jdk_65_method_132_code 3 (some (.array .byte)) ({ frames := 2, cells := 1, slots := 8, locals := 44 } : Room) #[(.ref va), (.int (Int32.ofNat f)), (.int (Int32.ofNat e))] h [] (fun v h' => ∃ a k', v = some (.ref a) ∧ Arv Z h' a k' .byte (Int32.ofNat (e - f)) ((vs.take e).drop f) (.int 0) ∧ Ext h h') := by
  obtain ⟨hw, hEL, O2, P5, O4⟩ := id G
  refine Ctr.of_run (a0 := a0) (L0 := #[.val (.ref va), .val (.int (Int32.ofNat f)), .val (.int (Int32.ofNat e))]) (plainFor_of_name pn_ar) hEL (by first | (simp [argsToLocals, Value.category, maxLocals]; done) | rfl) (fun K hK => ?_)
  refine Run.pure hK (seg := [(0, .iload_n 1, 1)]) (by decide +kernel) (pc' := 1) (L' := #[.val (.ref va), .val (.int (Int32.ofNat f)), .val (.int (Int32.ofNat e))]) (S' := [(.int (Int32.ofNat f))]) rfl ?_
  refine Run.ifz hK (cd := .ne) (o := 9) (by decide +kernel) (by decide) (pc' := 10) rfl (fun q0 => ?_) (fun q0 => ?_)
  · replace q0 := (h_ne _ _).1 q0
    refine Run.pure hK (seg := [(10, .aload_n 0, 1), (11, .iload_n 1, 1), (12, .iload_n 2, 1)]) (by decide +kernel) (pc' := 13) (L' := #[.val (.ref va), .val (.int (Int32.ofNat f)), .val (.int (Int32.ofNat e))]) (S' := [(.int (Int32.ofNat e)), (.int (Int32.ofNat f)), (.ref va)]) rfl ?_
    refine Run.static hK (index := 339) (y := (⟨"java/util/Arrays", "copyOfRangeByte", "([BII)[B"⟩ : MethodName)) (Wt := 0) (kc := 1) (ks := 8) (hw _ (List.mem_of_getElem? (i := 106) rfl)) (hw _ (List.mem_of_getElem? (i := 107) rfl)) (hw _ (List.mem_of_getElem? (i := 104) rfl)) (hw _ (List.mem_of_getElem? (i := 108) rfl)) (by decide) (W' := []) (fun _ q => nomatch q) (Ctr.cal (c_crg G va f e h A p1 p2 hne p3) (hw _ (List.mem_of_getElem? (i := 108) rfl)) (hw _ (List.mem_of_getElem? (i := 104) rfl)) (by decide) (by decide)) rfl (argsL := [(.ref va), (.int (Int32.ofNat f)), (.int (Int32.ofNat e))]) (rest := []) (lenOf pd_cor rfl) rfl (Nat.le_of_ble_eq_true rfl) (by decide +kernel) (by decide) (by decide) (fun v1 h1 q1 n1 => ?_)
    obtain ⟨a1, k1, rfl, A1, E1⟩ := q1
    exact Run.retw hK (i := .areturn) rfl (Or.inr (Or.inr (Or.inr (Or.inr ⟨rfl, rfl, rfl⟩)))) (by decide +kernel) (by decide) (by decide) ⟨a1, k1, rfl, A1, E1⟩
  · replace q0 := (h_ne _ _).2 q0
    have f0 : f = 0 := by have z := congrArg Int32.toInt q0; rw [ofN (by omega), tI0] at z; omega
    refine Run.pure hK (seg := [(4, .iload_n 2, 1), (5, .aload_n 0, 1)]) (by decide +kernel) (pc' := 6) (L' := #[.val (.ref va), .val (.int (Int32.ofNat f)), .val (.int (Int32.ofNat e))]) (S' := [(.ref va), (.int (Int32.ofNat e))]) rfl ?_
    refine Run.alen hK A (by decide +kernel) ?_
    refine Run.icmp hK (cd := .eq) (o := 10) (by decide +kernel) (by decide) (pc' := 17) rfl (fun q => by replace q := (h_eq _ _).1 q; have z := congrArg Int32.toInt q; rw [ofN (by omega), ofN (by omega)] at z; exact absurd ⟨f0, by omega⟩ hne) (fun _ => ?_)
    refine Run.pure hK (seg := [(10, .aload_n 0, 1), (11, .iload_n 1, 1), (12, .iload_n 2, 1)]) (by decide +kernel) (pc' := 13) (L' := #[.val (.ref va), .val (.int (Int32.ofNat f)), .val (.int (Int32.ofNat e))]) (S' := [(.int (Int32.ofNat e)), (.int (Int32.ofNat f)), (.ref va)]) rfl ?_
    refine Run.static hK (index := 339) (y := (⟨"java/util/Arrays", "copyOfRangeByte", "([BII)[B"⟩ : MethodName)) (Wt := 0) (kc := 1) (ks := 8) (hw _ (List.mem_of_getElem? (i := 106) rfl)) (hw _ (List.mem_of_getElem? (i := 107) rfl)) (hw _ (List.mem_of_getElem? (i := 104) rfl)) (hw _ (List.mem_of_getElem? (i := 108) rfl)) (by decide) (W' := []) (fun _ q => nomatch q) (Ctr.cal (c_crg G va f e h A p1 p2 hne p3) (hw _ (List.mem_of_getElem? (i := 108) rfl)) (hw _ (List.mem_of_getElem? (i := 104) rfl)) (by decide) (by decide)) rfl (argsL := [(.ref va), (.int (Int32.ofNat f)), (.int (Int32.ofNat e))]) (rest := []) (lenOf pd_cor rfl) rfl (Nat.le_of_ble_eq_true rfl) (by decide +kernel) (by decide) (by decide) (fun v1 h1 q1 n1 => ?_)
    obtain ⟨a1, k1, rfl, A1, E1⟩ := q1
    exact Run.retw hK (i := .areturn) rfl (Or.inr (Or.inr (Or.inr (Or.inr ⟨rfl, rfl, rfl⟩)))) (by decide +kernel) (by decide) (by decide) ⟨a1, k1, rfl, A1, E1⟩
set_option maxRecDepth 65536 in
set_option maxHeartbeats 40000000 in
theorem c_sbb {l : Launch} {Z : State} {a0 : Array Value} {z0 : Int32} {fm : Value} (G : Env1 Z a0 z0 fm) (x0 b : Addr) {cs : List Int32} {k : ClassId} (h : Heap) (hx0 : Z.heap.size ≤ x0) (X : Exa Z h x0 "java/lang/String") {v0 c0 : Value} (Fv : Fld Z h x0 "java/lang/String" "value" "[B" v0) (Fc : Fld Z h x0 "java/lang/String" "coder" "B" c0) (A : Arv Z h b k .byte (Int32.ofNat cs.length) ((cs.map StrChars.lo8).map Value.int) (.int 0)) (hb : ∀ c ∈ cs, ¬ c < 0 ∧ ¬ (255 : Int32) < c) (hl : cs.length ≤ 4000) : Ctr Z consts_1 false l [] (⟨"java/lang/String", "<init>", "([BB)V"⟩ : MethodName) jdk_42_method_151_code 3 none ({ frames := 1, cells := 0, slots := 0, locals := 14 } : Room) #[(.ref x0), (.ref b), (.int (0 : Int32))] h [x0] (fun v h' => v = none ∧ Str Z h' x0 cs ∧ Keep h h' [x0]) := by
  obtain ⟨hw, hEL, O2, P5, O4⟩ := id G
  refine Ctr.of_run (a0 := a0) (L0 := #[.val (.ref x0), .val (.ref b), .val (.int (0 : Int32))]) (plainFor_of_name pn_str) hEL (by first | (simp [argsToLocals, Value.category, maxLocals]; done) | rfl) (fun K hK => ?_)
  have nb : b ≠ x0 := (X.neArv A (hw _ (List.mem_of_getElem? (i := 19) rfl))).symm
  refine Run.pure hK (seg := [(0, .aload_n 0, 1)]) (by decide +kernel) (pc' := 1) (L' := #[.val (.ref x0), .val (.ref b), .val (.int (0 : Int32))]) (S' := [(.ref x0)]) rfl ?_
  refine Run.initobj hK (index := 1) (hw _ (List.mem_of_getElem? (i := 28) rfl)) (hw _ (List.mem_of_getElem? (i := 29) rfl)) (hw _ (List.mem_of_getElem? (i := 30) rfl)) rfl (by decide +kernel) (by decide) (Wt := 0) (Nat.le_of_ble_eq_true rfl) (by decide) ?_
  refine Run.pure hK (seg := [(4, .aload_n 0, 1), (5, .aload_n 1, 1)]) (by decide +kernel) (pc' := 6) (L' := #[.val (.ref x0), .val (.ref b), .val (.int (0 : Int32))]) (S' := [(.ref b), (.ref x0)]) rfl ?_
  refine Run.putf hK (index := 9) (host := "") (Or.inl (hw _ (List.mem_of_getElem? (i := 45) rfl))) Via.refl Fv X (Or.inr ⟨(hw _ (List.mem_of_getElem? (i := 46) rfl)), rfl, rfl⟩) (hw _ (List.mem_of_getElem? (i := 19) rfl)) (ty := (.array .byte)) (by decide) rfl rfl hx0 (sfW (List.mem_singleton.mpr rfl)) (by decide +kernel) (fun h1 W1 => ?_)
  replace Fv := Fv.same W1
  replace Fc := Fc.other W1 (Or.inr (slot_ne (Or.inr (hw _ (List.mem_of_getElem? (i := 44) rfl))) (Or.inr (hw _ (List.mem_of_getElem? (i := 46) rfl))) (by decide) (by decide : parseFieldDescriptor "B" = some .byte) (by decide : parseFieldDescriptor "[B" = some (.array .byte))))
  replace X := X.wr W1
  replace A := A.other W1 nb
  refine Run.pure hK (seg := [(9, .aload_n 0, 1), (10, .iload_n 2, 1)]) (by decide +kernel) (pc' := 11) (L' := #[.val (.ref x0), .val (.ref b), .val (.int (0 : Int32))]) (S' := [(.int (0 : Int32)), (.ref x0)]) rfl ?_
  refine Run.putf hK (index := 15) (host := "") (Or.inl (hw _ (List.mem_of_getElem? (i := 43) rfl))) Via.refl Fc X (Or.inr ⟨(hw _ (List.mem_of_getElem? (i := 44) rfl)), rfl, rfl⟩) (hw _ (List.mem_of_getElem? (i := 19) rfl)) (ty := .byte) (by decide) rfl rfl hx0 (sfW (List.mem_singleton.mpr rfl)) (by decide +kernel) (fun h2 W2 => ?_)
  replace Fv := Fv.other W2 (Or.inr (slot_ne (Or.inr (hw _ (List.mem_of_getElem? (i := 46) rfl))) (Or.inr (hw _ (List.mem_of_getElem? (i := 44) rfl))) (by decide) (by decide : parseFieldDescriptor "[B" = some (.array .byte)) (by decide : parseFieldDescriptor "B" = some .byte)))
  replace Fc := Fc.same W2
  replace X := X.wr W2
  replace A := A.other W2 nb
  exact Run.retv hK (by decide +kernel) (by decide) (by decide) ⟨rfl, ⟨X, Fc, ⟨b, k, Fv, A⟩, hb, hl⟩, ((Keep.refl _ [x0]).wr W1 (Or.inl (List.mem_singleton.mpr rfl))).wr W2 (Or.inl (List.mem_singleton.mpr rfl))⟩
set_option maxRecDepth 65536 in
set_option maxHeartbeats 40000000 in
theorem c_nst {l : Launch} {Z : State} {a0 : Array Value} {z0 : Int32} {fm : Value} (G : Env1 Z a0 z0 fm) (b : Addr) (f n : Nat) {cs : List Int32} {k : ClassId} (h : Heap) (A : Arv Z h b k .byte (Int32.ofNat cs.length) ((cs.map StrChars.lo8).map Value.int) (.int 0)) (hb : ∀ c ∈ cs, ¬ c < 0 ∧ ¬ (255 : Int32) < c) (p2 : f + n ≤ cs.length) (hne : ¬ (f = 0 ∧ n = cs.length)) (p3 : cs.length ≤ 8) : Ctr Z consts_1 false l [] (⟨"java/lang/StringLatin1", "newString", "([BII)Ljava/lang/String;"⟩ : MethodName) jdk_43_method_47_code 3 (some (.object "java/lang/String")) ({ frames := 3, cells := 2, slots := 12, locals := 64 } : Room) #[(.ref b), (.int (Int32.ofNat f)), (.int (Int32.ofNat n))] h [] (fun v h' => ∃ a, v = some (.ref a) ∧ Str Z h' a ((cs.take (f + n)).drop f) ∧ Ext h h') := by
  obtain ⟨hw, hEL, O2, P5, O4⟩ := id G
  refine Ctr.of_run (a0 := a0) (L0 := #[.val (.ref b), .val (.int (Int32.ofNat f)), .val (.int (Int32.ofNat n))]) (plainFor_of_name pn_sl) hEL (by first | (simp [argsToLocals, Value.category, maxLocals]; done) | rfl) (fun K hK => ?_)
  have wS := g_wS hw
  refine Run.old (fun hO => ?_)
  refine Run.pure hK (seg := [(0, .iload_n 2, 1)]) (by decide +kernel) (pc' := 1) (L' := #[.val (.ref b), .val (.int (Int32.ofNat f)), .val (.int (Int32.ofNat n))]) (S' := [(.int (Int32.ofNat n))]) rfl ?_
  refine Run.ifz hK (cd := .ne) (o := 6) (by decide +kernel) (by decide) (pc' := 7) rfl (fun q0 => ?_) (fun q0 => ?_)
  · replace q0 := (h_ne _ _).1 q0
    refine Run.new hK (index := 1) (C := "java/lang/String") (n := 4) (hw _ (List.mem_of_getElem? (i := 101) rfl)) (hw _ (List.mem_of_getElem? (i := 19) rfl)) (hw _ (List.mem_of_getElem? (i := 20) rfl)) (by decide +kernel) (by decide) (by decide) (fun hu Eu Xu Du => ?_)
    obtain ⟨au, zu⟩ : ∃ z, z = h.size := ⟨_, rfl⟩
    rw [← zu]
    rw [← zu] at Xu Du
    refine Run.pure hK (seg := [(10, .dup, 1), (11, .aload_n 0, 1), (12, .iload_n 1, 1), (13, .iload_n 1, 1), (14, .iload_n 2, 1), (15, .iadd, 1)]) (by decide +kernel) (pc' := 16) (L' := #[.val (.ref b), .val (.int (Int32.ofNat f)), .val (.int (Int32.ofNat n))]) (S' := [(.int ((Int32.ofNat f) + (Int32.ofNat n))), (.int (Int32.ofNat f)), (.ref b), (.ref au), (.ref au)]) rfl ?_
    have Vu := Du (Or.inr (hw _ (List.mem_of_getElem? (i := 46) rfl))) (ty := .array .byte) (by decide)
    have Cu := Du (Or.inr (hw _ (List.mem_of_getElem? (i := 44) rfl))) (ty := .byte) (by decide)
    have gu : h.size ≤ au := by rw [zu]; exact Nat.le_refl _
    rw [ofN_add (by omega : f + n ≤ 4000)]
    have lv : ((cs.map StrChars.lo8).map Value.int).length = cs.length := lens cs
    have Ax : Arv Z hu b k .byte (Int32.ofNat ((cs.map StrChars.lo8).map Value.int).length) ((cs.map StrChars.lo8).map Value.int) (.int 0) := by rw [lv]; exact A.ext Eu
    refine Run.static hK (index := 232) (y := (⟨"java/util/Arrays", "copyOfRange", "([BII)[B"⟩ : MethodName)) (Wt := 2) (kc := 1) (ks := 8) (hw _ (List.mem_of_getElem? (i := 102) rfl)) (hw _ (List.mem_of_getElem? (i := 103) rfl)) (hw _ (List.mem_of_getElem? (i := 104) rfl)) (hw _ (List.mem_of_getElem? (i := 105) rfl)) (by decide) (W' := []) (fun _ q => nomatch q) (Ctr.cal (c_cog G b f (f + n) hu Ax (by omega) (by rw [lv]; exact p2) (by rw [lv]; omega) (by rw [lv]; exact p3)) (hw _ (List.mem_of_getElem? (i := 105) rfl)) (hw _ (List.mem_of_getElem? (i := 104) rfl)) (by decide) (by decide)) rfl (argsL := [(.ref b), (.int (Int32.ofNat f)), (.int (Int32.ofNat (f + n)))]) (rest := [(.ref au), (.ref au)]) (lenOf pd_cor rfl) rfl (Nat.le_of_ble_eq_true rfl) (by decide +kernel) (by decide) (by decide) (fun v1 h1 q1 n1 => ?_)
    obtain ⟨a1, k1, rfl, A1, E1⟩ := q1
    have lc : ((cs.take (f + n)).drop f).length = f + n - f := by rw [List.length_drop, List.length_take]; omega
    rw [← str_map, ← lc] at A1
    refine Run.pure hK (seg := [(19, .iconst 0, 1)]) (by decide +kernel) (pc' := 20) (L' := #[.val (.ref b), .val (.int (Int32.ofNat f)), .val (.int (Int32.ofNat n))]) (S' := [(.int (0 : Int32)), (.ref a1), (.ref au), (.ref au)]) rfl ?_
    refine Run.special hK (index := 112) (y := (⟨"java/lang/String", "<init>", "([BB)V"⟩ : MethodName)) (Wt := 1) (kc := 0) (ks := 0) rfl (hw _ (List.mem_of_getElem? (i := 120) rfl)) (hw _ (List.mem_of_getElem? (i := 121) rfl)) (hw _ (List.mem_of_getElem? (i := 122) rfl)) (by decide) (a := au) (fun _ q => q) (Ctr.cal (c_sbb G au a1 h1 (Nat.le_trans hO.1 gu) (Xu.ext E1) (Vu.ext E1) (Cu.ext E1) A1 (fun c hc => hb c (mem_cut hc)) (by rw [lc]; omega)) (hw _ (List.mem_of_getElem? (i := 122) rfl)) (hw _ (List.mem_of_getElem? (i := 20) rfl)) (by decide) (by decide)) rfl (argsL := [(.ref a1), (.int (0 : Int32))]) (rest := [(.ref au)]) (lenOf pd_sbb rfl) rfl (Nat.le_of_ble_eq_true rfl) (by decide +kernel) (by decide) (by decide) (fun v2 h2 q2 n2 => ?_)
    obtain ⟨rfl, F2, K2⟩ := q2
    exact Run.retw hK (i := .areturn) rfl (Or.inr (Or.inr (Or.inr (Or.inr ⟨rfl, rfl, rfl⟩)))) (by decide +kernel) (by decide) (by decide) ⟨au, rfl, F2, ext_keep (Ext.tr Eu E1) K2 (fun x hx => by cases List.mem_singleton.mp hx; exact gu)⟩
  · replace q0 := (h_ne _ _).2 q0
    have n0 : n = 0 := by have z := congrArg Int32.toInt q0; rw [ofN (by omega), tI0] at z; omega
    subst n0
    refine Run.ldcs hK (index := 151) rfl (text := "") (hw _ (List.mem_of_getElem? (i := 221) rfl)) wS (by decide) (vs := []) (z := (0 : Int32)) (by decide +kernel) (by decide) (by decide +kernel) (by decide +kernel) (n := 0) (by decide) (by decide) (by decide) (by decide) (fun h3 x3 b3 k3 E3 X3 C3 V3 A3 => ?_)
    exact Run.retw hK (i := .areturn) rfl (Or.inr (Or.inr (Or.inr (Or.inr ⟨rfl, rfl, rfl⟩)))) (by decide +kernel) (by decide) (by decide) ⟨x3, rfl, (by rw [show (cs.take (f + 0)).drop f = [] from List.drop_of_length_le (by rw [List.length_take]; omega)]; exact ⟨X3, C3, ⟨b3, k3, V3, A3⟩, (fun _ q => nomatch q), by decide⟩), E3⟩
set_option maxRecDepth 65536 in
set_option maxHeartbeats 40000000 in
theorem c_sub {l : Launch} {Z : State} {a0 : Array Value} {z0 : Int32} {fm : Value} (G : Env1 Z a0 z0 fm) (x : Addr) (f e : Nat) {cs : List Int32} (h : Heap) (F : Str Z h x cs) (p1 : f ≤ e) (p2 : e ≤ cs.length) (p3 : cs.length ≤ 8) : Ctr Z consts_1 false l [] (⟨"java/lang/String", "substring", "(II)Ljava/lang/String;"⟩ : MethodName) jdk_42_method_92_code 5 (some (.object "java/lang/String")) ({ frames := 4, cells := 2, slots := 12, locals := 84 } : Room) #[(.ref x), (.int (Int32.ofNat f)), (.int (Int32.ofNat e))] h [] (fun v h' => ∃ a, v = some (.ref a) ∧ Str Z h' a ((cs.take e).drop f) ∧ Ext h h') := by
  obtain ⟨hw, hEL, O2, P5, O4⟩ := id G
  refine Ctr.of_run (a0 := a0) (L0 := #[.val (.ref x), .val (.int (Int32.ofNat f)), .val (.int (Int32.ofNat e)), .unset, .unset]) (plainFor_of_name pn_str) hEL (by first | (simp [argsToLocals, Value.category, maxLocals]; done) | rfl) (fun K hK => ?_)
  refine Run.pure hK (seg := [(0, .aload_n 0, 1)]) (by decide +kernel) (pc' := 1) (L' := #[.val (.ref x), .val (.int (Int32.ofNat f)), .val (.int (Int32.ofNat e)), .unset, .unset]) (S' := [(.ref x)]) rfl ?_
  refine Run.virtual hK (index := 505) (y := (⟨"java/lang/String", "length", "()I"⟩ : MethodName)) (z := (⟨"java/lang/String", "length", "()I"⟩ : MethodName)) (C := "java/lang/String") (Wt := 0) (kc := 0) (ks := 0) (hw _ (List.mem_of_getElem? (i := 91) rfl)) (hw _ (List.mem_of_getElem? (i := 52) rfl)) (nfS (hw _ (List.mem_of_getElem? (i := 54) rfl))) (hw _ (List.mem_of_getElem? (i := 54) rfl)) (hw _ (List.mem_of_getElem? (i := 53) rfl)) (by decide) (a := x) F.1 (fun _ q => q) (cal_len (g_lenW hw) (hw _ (List.mem_of_getElem? (i := 19) rfl)) F O2 P5 (by decide) (by decide)) rfl (argsL := []) (rest := []) (lenOf pd_len rfl) rfl (Nat.le_of_ble_eq_true rfl) (by decide +kernel) (by decide) (by decide) (fun v1 h1 q1 n1 => ?_)
  obtain ⟨rfl, rfl⟩ := q1
  refine Run.pure hK (seg := [(4, .istore_n 3, 1), (5, .iload_n 1, 1), (6, .iload_n 2, 1), (7, .iload_n 3, 1)]) (by decide +kernel) (pc' := 8) (L' := #[.val (.ref x), .val (.int (Int32.ofNat f)), .val (.int (Int32.ofNat e)), .val (.int (Int32.ofNat cs.length)), .unset]) (S' := [(.int (Int32.ofNat cs.length)), (.int (Int32.ofNat e)), (.int (Int32.ofNat f))]) rfl ?_
  refine Run.static hK (index := 521) (y := (⟨"java/lang/String", "checkBoundsBeginEnd", "(III)V"⟩ : MethodName)) (Wt := 0) (kc := 0) (ks := 0) (hw _ (List.mem_of_getElem? (i := 92) rfl)) (hw _ (List.mem_of_getElem? (i := 93) rfl)) (hw _ (List.mem_of_getElem? (i := 20) rfl)) (hw _ (List.mem_of_getElem? (i := 94) rfl)) (by decide) (W' := []) (fun _ q => nomatch q) (Ctr.cal (c_cfb G f e cs.length h1 p1 p2 (by omega)) (hw _ (List.mem_of_getElem? (i := 94) rfl)) (hw _ (List.mem_of_getElem? (i := 20) rfl)) (by decide) (by decide)) rfl (argsL := [(.int (Int32.ofNat f)), (.int (Int32.ofNat e)), (.int (Int32.ofNat cs.length))]) (rest := []) (lenOf pd_cfb rfl) rfl (Nat.le_of_ble_eq_true rfl) (by decide +kernel) (by decide) (by decide) (fun v2 h2 q2 n2 => ?_)
  obtain ⟨rfl, rfl⟩ := q2
  suffices s22 : ¬ (f = 0 ∧ e = cs.length) → Run Z consts_1 false K (fun v h' => ∃ a, v = some (.ref a) ∧ Str Z h' a ((cs.take e).drop f) ∧ Ext h2 h') [] h2 0 0 22 #[.val (.ref x), .val (.int (Int32.ofNat f)), .val (.int (Int32.ofNat e)), .val (.int (Int32.ofNat cs.length)), .unset] [] by
    refine Run.pure hK (seg := [(11, .iload_n 1, 1)]) (by decide +kernel) (pc' := 12) (L' := #[.val (.ref x), .val (.int (Int32.ofNat f)), .val (.int (Int32.ofNat e)), .val (.int (Int32.ofNat cs.length)), .unset]) (S' := [(.int (Int32.ofNat f))]) rfl ?_
    refine Run.ifz hK (cd := .ne) (o := 10) (by decide +kernel) (by decide) (pc' := 22) rfl (fun q0 => ?_) (fun q0 => ?_)
    · replace q0 := (h_ne _ _).1 q0
      exact s22 (fun z => q0 (by rw [z.1]; rfl))
    · replace q0 := (h_ne _ _).2 q0
      have e0 : f = 0 := by have z := congrArg Int32.toInt q0; rw [ofN (by omega), tI0] at z; omega
      refine Run.pure hK (seg := [(15, .iload_n 2, 1), (16, .iload_n 3, 1)]) (by decide +kernel) (pc' := 17) (L' := #[.val (.ref x), .val (.int (Int32.ofNat f)), .val (.int (Int32.ofNat e)), .val (.int (Int32.ofNat cs.length)), .unset]) (S' := [(.int (Int32.ofNat cs.length)), (.int (Int32.ofNat e))]) rfl ?_
      refine Run.icmp hK (cd := .ne) (o := 5) (by decide +kernel) (by decide) (pc' := 22) rfl (fun q1 => ?_) (fun q1 => ?_)
      · replace q1 := (h_ne _ _).1 q1
        exact s22 (fun z => q1 (by rw [z.2]))
      · replace q1 := (h_ne _ _).2 q1
        have e1 : e = cs.length := by have z := congrArg Int32.toInt q1; rw [ofN (by omega), ofN (by omega)] at z; omega
        refine Run.pure hK (seg := [(20, .aload_n 0, 1)]) (by decide +kernel) (pc' := 21) (L' := #[.val (.ref x), .val (.int (Int32.ofNat f)), .val (.int (Int32.ofNat e)), .val (.int (Int32.ofNat cs.length)), .unset]) (S' := [(.ref x)]) rfl ?_
        exact Run.retw hK (i := .areturn) rfl (Or.inr (Or.inr (Or.inr (Or.inr ⟨rfl, rfl, rfl⟩)))) (by decide +kernel) (by decide) (by decide) ⟨x, rfl, (by rw [e0, e1, List.take_length]; exact F), Ext.rf⟩
  intro hne
  refine Run.pure hK (seg := [(22, .iload_n 2, 1), (23, .iload_n 1, 1), (24, .isub, 1)]) (by decide +kernel) (pc' := 25) (L' := #[.val (.ref x), .val (.int (Int32.ofNat f)), .val (.int (Int32.ofNat e)), .val (.int (Int32.ofNat cs.length)), .unset]) (S' := [(.int ((Int32.ofNat e) - (Int32.ofNat f)))]) rfl ?_
  rw [ofN_sub (by omega) p1]
  refine Run.pure hK (seg := [(25, .istore 4, 2), (27, .aload_n 0, 1)]) (by decide +kernel) (pc' := 28) (L' := #[.val (.ref x), .val (.int (Int32.ofNat f)), .val (.int (Int32.ofNat e)), .val (.int (Int32.ofNat cs.length)), .val (.int (Int32.ofNat (e - f)))]) (S' := [(.ref x)]) rfl ?_
  refine Run.virtual hK (index := 492) (y := (⟨"java/lang/String", "isLatin1", "()Z"⟩ : MethodName)) (z := (⟨"java/lang/String", "isLatin1", "()Z"⟩ : MethodName)) (C := "java/lang/String") (Wt := 0) (kc := 0) (ks := 0) (hw _ (List.mem_of_getElem? (i := 66) rfl)) (hw _ (List.mem_of_getElem? (i := 67) rfl)) (nfS (hw _ (List.mem_of_getElem? (i := 69) rfl))) (hw _ (List.mem_of_getElem? (i := 69) rfl)) (hw _ (List.mem_of_getElem? (i := 68) rfl)) (by decide) (a := x) F.1 (W' := []) (fun _ q => nomatch q) (Ctr.cal (c_isl G x h2 F) (hw _ (List.mem_of_getElem? (i := 70) rfl)) (hw _ (List.mem_of_getElem? (i := 20) rfl)) (by decide) (by decide)) rfl (argsL := []) (rest := []) (lenOf pd_z rfl) rfl (Nat.le_of_ble_eq_true rfl) (by decide +kernel) (by decide) (by decide) (fun v3 h3 q3 n3 => ?_)
  obtain ⟨rfl, rfl⟩ := q3
  refine Run.ifz hK (cd := .eq) (o := 16) (by decide +kernel) (by decide) (pc' := 47) rfl (fun q => by replace q := (h_eq _ _).1 q; exact absurd q (by decide)) (fun _ => ?_)
  obtain ⟨f1, f2, ⟨b, kb, f3, f4⟩, f5, f6⟩ := F
  refine Run.pure hK (seg := [(34, .aload_n 0, 1)]) (by decide +kernel) (pc' := 35) (L' := #[.val (.ref x), .val (.int (Int32.ofNat f)), .val (.int (Int32.ofNat e)), .val (.int (Int32.ofNat cs.length)), .val (.int (Int32.ofNat (e - f)))]) (S' := [(.ref x)]) rfl ?_
  refine Run.getf hK (index := 9) (host := "") (Or.inl (hw _ (List.mem_of_getElem? (i := 45) rfl))) Via.refl f3 (by decide +kernel) ?_
  refine Run.pure hK (seg := [(38, .iload_n 1, 1), (39, .iload 4, 2)]) (by decide +kernel) (pc' := 41) (L' := #[.val (.ref x), .val (.int (Int32.ofNat f)), .val (.int (Int32.ofNat e)), .val (.int (Int32.ofNat cs.length)), .val (.int (Int32.ofNat (e - f)))]) (S' := [(.int (Int32.ofNat (e - f))), (.int (Int32.ofNat f)), (.ref b)]) rfl ?_
  refine Run.static hK (index := 685) (y := (⟨"java/lang/StringLatin1", "newString", "([BII)Ljava/lang/String;"⟩ : MethodName)) (Wt := 0) (kc := 2) (ks := 12) (hw _ (List.mem_of_getElem? (i := 98) rfl)) (hw _ (List.mem_of_getElem? (i := 99) rfl)) (hw _ (List.mem_of_getElem? (i := 73) rfl)) (hw _ (List.mem_of_getElem? (i := 100) rfl)) (by decide) (W' := []) (fun _ q => nomatch q) (Ctr.cal (c_nst G b f (e - f) h3 f4 f5 (by omega) (fun z => hne ⟨z.1, by omega⟩) p3) (hw _ (List.mem_of_getElem? (i := 100) rfl)) (hw _ (List.mem_of_getElem? (i := 73) rfl)) (by decide) (by decide)) rfl (argsL := [(.ref b), (.int (Int32.ofNat f)), (.int (Int32.ofNat (e - f)))]) (rest := []) (lenOf pd_nst rfl) rfl (Nat.le_of_ble_eq_true rfl) (by decide +kernel) (by decide) (by decide) (fun v4 h4 q4 n4 => ?_)
  obtain ⟨a4, rfl, F4, E4⟩ := q4
  rw [show f + (e - f) = e by omega] at F4
  refine Run.pure hK (seg := [(44, .goto 13, 3)]) (by decide +kernel) (pc' := 57) (L' := #[.val (.ref x), .val (.int (Int32.ofNat f)), .val (.int (Int32.ofNat e)), .val (.int (Int32.ofNat cs.length)), .val (.int (Int32.ofNat (e - f)))]) (S' := [(.ref a4)]) rfl ?_
  exact Run.retw hK (i := .areturn) rfl (Or.inr (Or.inr (Or.inr (Or.inr ⟨rfl, rfl, rfl⟩)))) (by decide +kernel) (by decide) (by decide) ⟨a4, rfl, F4, E4⟩
set_option maxRecDepth 65536 in
set_option maxHeartbeats 40000000 in
theorem c_mm {l : Launch} {Z : State} {a0 : Array Value} {z0 : Int32} {fm : Value} (G : Env1 Z a0 z0 fm) (b1 b2 : Addr) (d : Int32) {cs : List Int32} {k1 k2 : ClassId} (h : Heap) (A1 : Arv Z h b1 k1 .byte (Int32.ofNat cs.length) ((cs.map StrChars.lo8).map Value.int) (.int 0)) (A2 : Arv Z h b2 k2 .byte 1 (([d].map StrChars.lo8).map Value.int) (.int 0)) (h0 : 0 < cs.length) (h4 : cs.length ≤ 4000) (hb : ∀ c ∈ cs, ¬ c < 0 ∧ ¬ (255 : Int32) < c) (hd : ¬ d < 0 ∧ ¬ (255 : Int32) < d) : Ctr Z consts_1 false l [] (⟨"jdk/internal/util/ArraysSupport", "mismatch", "([BI[BII)I"⟩ : MethodName) jdk_48_method_14_code 8 (some .int) ({ frames := 0, cells := 0, slots := 0, locals := 0 } : Room) #[(.ref b1), (.int (0 : Int32)), (.ref b2), (.int (0 : Int32)), (.int (1 : Int32))] h [] (fun v h' => h' = h ∧ ∃ r, v = some (.int r) ∧ ((r = (-1 : Int32) ∧ cs.getD 0 0 = d) ∨ (r = 0 ∧ ¬ cs.getD 0 0 = d))) := by
  obtain ⟨hw, hEL, O2, P5, O4⟩ := id G
  refine Ctr.of_run (a0 := a0) (L0 := #[.val (.ref b1), .val (.int (0 : Int32)), .val (.ref b2), .val (.int (0 : Int32)), .val (.int (1 : Int32)), .unset, .unset, .unset]) (plainFor_of_name pn_as) hEL (by first | (simp [argsToLocals, Value.category, maxLocals]; done) | rfl) (fun K hK => ?_)
  have hc0 : ¬ cs.getD 0 0 < 0 ∧ ¬ (255 : Int32) < cs.getD 0 0 := by
    have e : cs.getD 0 0 = cs[0] := by simp [List.getD_eq_getElem?_getD, h0]
    rw [e]; exact hb _ (List.getElem_mem h0)
  refine Run.pure hK (seg := [(0, .iconst 0, 1), (1, .istore 5, 2), (3, .iload 4, 2), (5, .bipush 7, 2)]) (by decide +kernel) (pc' := 7) (L' := #[.val (.ref b1), .val (.int (0 : Int32)), .val (.ref b2), .val (.int (0 : Int32)), .val (.int (1 : Int32)), .val (.int (0 : Int32)), .unset, .unset]) (S' := [(.int (7 : Int32)), (.int (1 : Int32))]) rfl ?_
  refine Run.icmp hK (cd := .le) (o := 63) (by decide +kernel) (by decide) (pc' := 70) rfl (fun _ => ?_) (fun q => by replace q := (h_le _ _).2 q; exact absurd q (by decide))
  refine Run.pure hK (seg := [(70, .iload 5, 2), (72, .iload 4, 2)]) (by decide +kernel) (pc' := 74) (L' := #[.val (.ref b1), .val (.int (0 : Int32)), .val (.ref b2), .val (.int (0 : Int32)), .val (.int (1 : Int32)), .val (.int (0 : Int32)), .unset, .unset]) (S' := [(.int (1 : Int32)), (.int (0 : Int32))]) rfl ?_
  refine Run.icmp hK (cd := .ge) (o := 27) (by decide +kernel) (by decide) (pc' := 101) rfl (fun q => by replace q := (h_ge _ _).1 q; exact absurd (by decide) q) (fun _ => ?_)
  refine Run.pure hK (seg := [(77, .aload_n 0, 1), (78, .iload_n 1, 1), (79, .iload 5, 2), (81, .iadd, 1)]) (by decide +kernel) (pc' := 82) (L' := #[.val (.ref b1), .val (.int (0 : Int32)), .val (.ref b2), .val (.int (0 : Int32)), .val (.int (1 : Int32)), .val (.int (0 : Int32)), .unset, .unset]) (S' := [(.int ((0 : Int32) + (0 : Int32))), (.ref b1)]) rfl ?_
  rw [show (0 : Int32) + (0 : Int32) = (0 : Int32) from rfl]
  refine Run.ald hK (i := .baload) (v := (.int (StrChars.lo8 (cs.getD 0 0)))) A1 (Or.inr (Or.inr (Or.inl ⟨rfl, rfl⟩))) ⟨by decide, (ofN_lt2 (a := 0) (by omega) h4).mpr h0⟩ (getD_lo8 cs 0) (by decide +kernel) ?_
  refine Run.pure hK (seg := [(83, .aload_n 2, 1), (84, .iload_n 3, 1), (85, .iload 5, 2), (87, .iadd, 1)]) (by decide +kernel) (pc' := 88) (L' := #[.val (.ref b1), .val (.int (0 : Int32)), .val (.ref b2), .val (.int (0 : Int32)), .val (.int (1 : Int32)), .val (.int (0 : Int32)), .unset, .unset]) (S' := [(.int ((0 : Int32) + (0 : Int32))), (.ref b2), (.int (StrChars.lo8 (cs.getD 0 0)))]) rfl ?_
  rw [show (0 : Int32) + (0 : Int32) = (0 : Int32) from rfl]
  refine Run.ald hK (i := .baload) (v := (.int (StrChars.lo8 d))) A2 (Or.inr (Or.inr (Or.inl ⟨rfl, rfl⟩))) ⟨by decide, by decide⟩ rfl (by decide +kernel) ?_
  refine Run.icmp hK (cd := .eq) (o := 6) (by decide +kernel) (by decide) (pc' := 95) rfl (fun q1 => ?_) (fun q1 => ?_)
  · replace q1 := (h_eq _ _).1 q1
    refine Run.pure hK (seg := [(95, .iinc 5 1, 3), (98, .goto (-28), 3)]) (by decide +kernel) (pc' := 70) (L' := #[.val (.ref b1), .val (.int (0 : Int32)), .val (.ref b2), .val (.int (0 : Int32)), .val (.int (1 : Int32)), .val (.int ((0 : Int32) + (1 : Int32))), .unset, .unset]) (S' := []) rfl ?_
    rw [show (0 : Int32) + (1 : Int32) = (1 : Int32) from rfl]
    refine Run.pure hK (seg := [(70, .iload 5, 2), (72, .iload 4, 2)]) (by decide +kernel) (pc' := 74) (L' := #[.val (.ref b1), .val (.int (0 : Int32)), .val (.ref b2), .val (.int (0 : Int32)), .val (.int (1 : Int32)), .val (.int (1 : Int32)), .unset, .unset]) (S' := [(.int (1 : Int32)), (.int (1 : Int32))]) rfl ?_
    refine Run.icmp hK (cd := .ge) (o := 27) (by decide +kernel) (by decide) (pc' := 101) rfl (fun _ => ?_) (fun q => by replace q := (h_ge _ _).2 q; exact absurd q (by decide))
    refine Run.pure hK (seg := [(101, .iconst (-1), 1)]) (by decide +kernel) (pc' := 102) (L' := #[.val (.ref b1), .val (.int (0 : Int32)), .val (.ref b2), .val (.int (0 : Int32)), .val (.int (1 : Int32)), .val (.int (1 : Int32)), .unset, .unset]) (S' := [(.int (-1 : Int32))]) rfl ?_
    exact Run.retw hK (i := .ireturn) rfl (Or.inl ⟨rfl, Or.inl rfl, _, rfl⟩) (by decide +kernel) (by decide) (by decide) ⟨rfl, _, rfl, Or.inl ⟨rfl, (lo8_eq hc0 hd).mp q1⟩⟩
  · replace q1 := (h_eq _ _).2 q1
    refine Run.pure hK (seg := [(92, .iload 5, 2)]) (by decide +kernel) (pc' := 94) (L' := #[.val (.ref b1), .val (.int (0 : Int32)), .val (.ref b2), .val (.int (0 : Int32)), .val (.int (1 : Int32)), .val (.int (0 : Int32)), .unset, .unset]) (S' := [(.int (0 : Int32))]) rfl ?_
    exact Run.retw hK (i := .ireturn) rfl (Or.inl ⟨rfl, Or.inl rfl, _, rfl⟩) (by decide +kernel) (by decide) (by decide) ⟨rfl, _, rfl, Or.inr ⟨rfl, fun z => q1 ((lo8_eq hc0 hd).mpr z)⟩⟩
set_option maxRecDepth 65536 in
set_option maxHeartbeats 40000000 in
theorem c_sw2 {l : Launch} {Z : State} {a0 : Array Value} {z0 : Int32} {fm : Value} (G : Env1 Z a0 z0 fm) (x y : Addr) (d : Int32) {cs : List Int32} (h : Heap) (F : Str Z h x cs) (D : Str Z h y [d]) : Ctr Z consts_1 false l [] (⟨"java/lang/String", "startsWith", "(Ljava/lang/String;I)Z"⟩ : MethodName) jdk_42_method_75_code 8 (some .boolean) ({ frames := 2, cells := 0, slots := 0, locals := 40 } : Room) #[(.ref x), (.ref y), (.int (0 : Int32))] h [] (fun v h' => h' = h ∧ ∃ r, v = some (.int r) ∧ ((r = 1 ∧ 0 < cs.length ∧ cs.getD 0 0 = d) ∨ (r = 0 ∧ ¬ (0 < cs.length ∧ cs.getD 0 0 = d)))) := by
  obtain ⟨hw, hEL, O2, P5, O4⟩ := id G
  refine Ctr.of_run (a0 := a0) (L0 := #[.val (.ref x), .val (.ref y), .val (.int (0 : Int32)), .unset, .unset, .unset, .unset, .unset]) (plainFor_of_name pn_str) hEL (by first | (simp [argsToLocals, Value.category, maxLocals]; done) | rfl) (fun K hK => ?_)
  refine Run.pure hK (seg := [(0, .iload_n 2, 1)]) (by decide +kernel) (pc' := 1) (L' := #[.val (.ref x), .val (.ref y), .val (.int (0 : Int32)), .unset, .unset, .unset, .unset, .unset]) (S' := [(.int (0 : Int32))]) rfl ?_
  refine Run.ifz hK (cd := .lt) (o := 16) (by decide +kernel) (by decide) (pc' := 17) rfl (fun q => by replace q := (h_lt _ _).1 q; exact absurd q (by decide)) (fun _ => ?_)
  refine Run.pure hK (seg := [(4, .iload_n 2, 1), (5, .aload_n 0, 1)]) (by decide +kernel) (pc' := 6) (L' := #[.val (.ref x), .val (.ref y), .val (.int (0 : Int32)), .unset, .unset, .unset, .unset, .unset]) (S' := [(.ref x), (.int (0 : Int32))]) rfl ?_
  refine Run.virtual hK (index := 505) (y := (⟨"java/lang/String", "length", "()I"⟩ : MethodName)) (z := (⟨"java/lang/String", "length", "()I"⟩ : MethodName)) (C := "java/lang/String") (Wt := 1) (kc := 0) (ks := 0) (hw _ (List.mem_of_getElem? (i := 91) rfl)) (hw _ (List.mem_of_getElem? (i := 52) rfl)) (nfS (hw _ (List.mem_of_getElem? (i := 54) rfl))) (hw _ (List.mem_of_getElem? (i := 54) rfl)) (hw _ (List.mem_of_getElem? (i := 53) rfl)) (by decide) (a := x) F.1 (fun _ q => q) (cal_len (g_lenW hw) (hw _ (List.mem_of_getElem? (i := 19) rfl)) F O2 P5 (by decide) (by decide)) rfl (argsL := []) (rest := [(.int (0 : Int32))]) (lenOf pd_len rfl) rfl (Nat.le_of_ble_eq_true rfl) (by decide +kernel) (by decide) (by decide) (fun v1 h1 q1 n1 => ?_)
  obtain ⟨rfl, rfl⟩ := q1
  refine Run.pure hK (seg := [(9, .aload_n 1, 1)]) (by decide +kernel) (pc' := 10) (L' := #[.val (.ref x), .val (.ref y), .val (.int (0 : Int32)), .unset, .unset, .unset, .unset, .unset]) (S' := [(.ref y), (.int (Int32.ofNat cs.length)), (.int (0 : Int32))]) rfl ?_
  refine Run.virtual hK (index := 505) (y := (⟨"java/lang/String", "length", "()I"⟩ : MethodName)) (z := (⟨"java/lang/String", "length", "()I"⟩ : MethodName)) (C := "java/lang/String") (Wt := 2) (kc := 0) (ks := 0) (hw _ (List.mem_of_getElem? (i := 91) rfl)) (hw _ (List.mem_of_getElem? (i := 52) rfl)) (nfS (hw _ (List.mem_of_getElem? (i := 54) rfl))) (hw _ (List.mem_of_getElem? (i := 54) rfl)) (hw _ (List.mem_of_getElem? (i := 53) rfl)) (by decide) (a := y) D.1 (fun _ q => q) (cal_len (g_lenW hw) (hw _ (List.mem_of_getElem? (i := 19) rfl)) D O2 P5 (by decide) (by decide)) rfl (argsL := []) (rest := [(.int (Int32.ofNat cs.length)), (.int (0 : Int32))]) (lenOf pd_len rfl) rfl (Nat.le_of_ble_eq_true rfl) (by decide +kernel) (by decide) (by decide) (fun v2 h2 q2 n2 => ?_)
  obtain ⟨rfl, rfl⟩ := q2
  have l4 := F.2.2.2.2
  have sv := c_isub (Int32.ofNat cs.length) 1
  have sr := rng32 (Int32.ofNat cs.length - 1)
  have s1 : (1 : Int32).toInt = 1 := rfl
  rw [ofN l4] at sv
  refine Run.pure hK (seg := [(13, .isub, 1)]) (by decide +kernel) (pc' := 14) (L' := #[.val (.ref x), .val (.ref y), .val (.int (0 : Int32)), .unset, .unset, .unset, .unset, .unset]) (S' := [(.int ((Int32.ofNat cs.length) - (1 : Int32))), (.int (0 : Int32))]) rfl ?_
  refine Run.icmp hK (cd := .le) (o := 5) (by decide +kernel) (by decide) (pc' := 19) rfl (fun q0 => ?_) (fun q0 => ?_)
  · replace q0 := (h_le _ _).1 q0
    have h0 : 0 < cs.length := by rw [Int32.lt_iff_toInt_lt, tI0] at q0; omega
    have F0 := F
    have D0 := D
    obtain ⟨f1, f2, ⟨b1, kb1, f3, f4⟩, f5, f6⟩ := F
    obtain ⟨d1, d2, ⟨b2, kb2, d3, d4⟩, d5, d6⟩ := D
    refine Run.pure hK (seg := [(19, .aload_n 0, 1)]) (by decide +kernel) (pc' := 20) (L' := #[.val (.ref x), .val (.ref y), .val (.int (0 : Int32)), .unset, .unset, .unset, .unset, .unset]) (S' := [(.ref x)]) rfl ?_
    refine Run.getf hK (index := 9) (host := "") (Or.inl (hw _ (List.mem_of_getElem? (i := 45) rfl))) Via.refl f3 (by decide +kernel) ?_
    refine Run.pure hK (seg := [(23, .astore_n 3, 1), (24, .aload_n 1, 1)]) (by decide +kernel) (pc' := 25) (L' := #[.val (.ref x), .val (.ref y), .val (.int (0 : Int32)), .val (.ref b1), .unset, .unset, .unset, .unset]) (S' := [(.ref y)]) rfl ?_
    refine Run.getf hK (index := 9) (host := "") (Or.inl (hw _ (List.mem_of_getElem? (i := 45) rfl))) Via.refl d3 (by decide +kernel) ?_
    refine Run.pure hK (seg := [(28, .astore 4, 2), (30, .iconst 0, 1), (31, .istore 5, 2), (33, .aload 4, 2)]) (by decide +kernel) (pc' := 35) (L' := #[.val (.ref x), .val (.ref y), .val (.int (0 : Int32)), .val (.ref b1), .val (.ref b2), .val (.int (0 : Int32)), .unset, .unset]) (S' := [(.ref b2)]) rfl ?_
    refine Run.alen hK d4 (by decide +kernel) ?_
    refine Run.pure hK (seg := [(36, .istore 6, 2), (38, .aload_n 0, 1)]) (by decide +kernel) (pc' := 39) (L' := #[.val (.ref x), .val (.ref y), .val (.int (0 : Int32)), .val (.ref b1), .val (.ref b2), .val (.int (0 : Int32)), .val (.int (1 : Int32)), .unset]) (S' := [(.ref x)]) rfl ?_
    refine Run.virtual hK (index := 335) (y := (⟨"java/lang/String", "coder", "()B"⟩ : MethodName)) (z := (⟨"java/lang/String", "coder", "()B"⟩ : MethodName)) (C := "java/lang/String") (Wt := 0) (kc := 0) (ks := 0) (hw _ (List.mem_of_getElem? (i := 56) rfl)) (hw _ (List.mem_of_getElem? (i := 57) rfl)) (nfS (hw _ (List.mem_of_getElem? (i := 59) rfl))) (hw _ (List.mem_of_getElem? (i := 59) rfl)) (hw _ (List.mem_of_getElem? (i := 58) rfl)) (by decide) (a := x) f1 (W' := []) (fun _ q => nomatch q) (Ctr.cal (c_codf G x h2 F0) (hw _ (List.mem_of_getElem? (i := 60) rfl)) (hw _ (List.mem_of_getElem? (i := 20) rfl)) (by decide) (by decide)) rfl (argsL := []) (rest := []) (lenOf pd_cod rfl) rfl (Nat.le_of_ble_eq_true rfl) (by decide +kernel) (by decide) (by decide) (fun v3 h3 q3 n3 => ?_)
    obtain ⟨rfl, rfl⟩ := q3
    refine Run.pure hK (seg := [(42, .istore 7, 2), (44, .iload 7, 2), (46, .aload_n 1, 1)]) (by decide +kernel) (pc' := 47) (L' := #[.val (.ref x), .val (.ref y), .val (.int (0 : Int32)), .val (.ref b1), .val (.ref b2), .val (.int (0 : Int32)), .val (.int (1 : Int32)), .val (.int (0 : Int32))]) (S' := [(.ref y), (.int (0 : Int32))]) rfl ?_
    refine Run.virtual hK (index := 335) (y := (⟨"java/lang/String", "coder", "()B"⟩ : MethodName)) (z := (⟨"java/lang/String", "coder", "()B"⟩ : MethodName)) (C := "java/lang/String") (Wt := 1) (kc := 0) (ks := 0) (hw _ (List.mem_of_getElem? (i := 56) rfl)) (hw _ (List.mem_of_getElem? (i := 57) rfl)) (nfS (hw _ (List.mem_of_getElem? (i := 59) rfl))) (hw _ (List.mem_of_getElem? (i := 59) rfl)) (hw _ (List.mem_of_getElem? (i := 58) rfl)) (by decide) (a := y) d1 (W' := []) (fun _ q => nomatch q) (Ctr.cal (c_codf G y h3 D0) (hw _ (List.mem_of_getElem? (i := 60) rfl)) (hw _ (List.mem_of_getElem? (i := 20) rfl)) (by decide) (by decide)) rfl (argsL := []) (rest := [(.int (0 : Int32))]) (lenOf pd_cod rfl) rfl (Nat.le_of_ble_eq_true rfl) (by decide +kernel) (by decide) (by decide) (fun v4 h4 q4 n4 => ?_)
    obtain ⟨rfl, rfl⟩ := q4
    refine Run.icmp hK (cd := .ne) (o := 32) (by decide +kernel) (by decide) (pc' := 82) rfl (fun q => by replace q := (h_ne _ _).1 q; exact absurd rfl q) (fun _ => ?_)
    refine Run.pure hK (seg := [(53, .iload 7, 2), (55, .iconst 1, 1)]) (by decide +kernel) (pc' := 56) (L' := #[.val (.ref x), .val (.ref y), .val (.int (0 : Int32)), .val (.ref b1), .val (.ref b2), .val (.int (0 : Int32)), .val (.int (1 : Int32)), .val (.int (0 : Int32))]) (S' := [(.int (1 : Int32)), (.int (0 : Int32))]) rfl ?_
    refine Run.icmp hK (cd := .ne) (o := 7) (by decide +kernel) (by decide) (pc' := 63) rfl (fun _ => ?_) (fun q => by replace q := (h_ne _ _).2 q; exact absurd q (by decide))
    refine Run.pure hK (seg := [(63, .aload_n 3, 1), (64, .iload_n 2, 1), (65, .aload 4, 2), (67, .iconst 0, 1), (68, .iload 6, 2)]) (by decide +kernel) (pc' := 70) (L' := #[.val (.ref x), .val (.ref y), .val (.int (0 : Int32)), .val (.ref b1), .val (.ref b2), .val (.int (0 : Int32)), .val (.int (1 : Int32)), .val (.int (0 : Int32))]) (S' := [(.int (1 : Int32)), (.int (0 : Int32)), (.ref b2), (.int (0 : Int32)), (.ref b1)]) rfl ?_
    refine Run.static hK (index := 607) (y := (⟨"jdk/internal/util/ArraysSupport", "mismatch", "([BI[BII)I"⟩ : MethodName)) (Wt := 0) (kc := 0) (ks := 0) (hw _ (List.mem_of_getElem? (i := 136) rfl)) (hw _ (List.mem_of_getElem? (i := 137) rfl)) (hw _ (List.mem_of_getElem? (i := 138) rfl)) (hw _ (List.mem_of_getElem? (i := 139) rfl)) (by decide) (W' := []) (fun _ q => nomatch q) (Ctr.cal (c_mm G b1 b2 d h4 f4 d4 h0 l4 f5 (d5 d (List.mem_singleton.mpr rfl))) (hw _ (List.mem_of_getElem? (i := 139) rfl)) (hw _ (List.mem_of_getElem? (i := 138) rfl)) (by decide) (by decide)) rfl (argsL := [(.ref b1), (.int (0 : Int32)), (.ref b2), (.int (0 : Int32)), (.int (1 : Int32))]) (rest := []) (lenOf pd_mm rfl) rfl (Nat.le_of_ble_eq_true rfl) (by decide +kernel) (by decide) (by decide) (fun v5 h5 q5 n5 => ?_)
    obtain ⟨rfl, r, rfl, hr⟩ := q5
    rcases hr with ⟨rfl, hr⟩ | ⟨rfl, hr⟩
    · refine Run.ifz hK (cd := .ge) (o := 7) (by decide +kernel) (by decide) (pc' := 80) rfl (fun q => by replace q := (h_ge _ _).1 q; exact absurd q (by decide)) (fun _ => ?_)
      refine Run.pure hK (seg := [(76, .iconst 1, 1), (77, .goto 4, 3)]) (by decide +kernel) (pc' := 81) (L' := #[.val (.ref x), .val (.ref y), .val (.int (0 : Int32)), .val (.ref b1), .val (.ref b2), .val (.int (0 : Int32)), .val (.int (1 : Int32)), .val (.int (0 : Int32))]) (S' := [(.int (1 : Int32))]) rfl ?_
      exact Run.retw hK (i := .ireturn) rfl (Or.inl ⟨rfl, Or.inr (Or.inl rfl), _, rfl⟩) (by decide +kernel) (by decide) (by decide) ⟨rfl, _, rfl, Or.inl ⟨rfl, h0, hr⟩⟩
    · refine Run.ifz hK (cd := .ge) (o := 7) (by decide +kernel) (by decide) (pc' := 80) rfl (fun _ => ?_) (fun q => by replace q := (h_ge _ _).2 q; exact absurd q (by decide))
      refine Run.pure hK (seg := [(80, .iconst 0, 1)]) (by decide +kernel) (pc' := 81) (L' := #[.val (.ref x), .val (.ref y), .val (.int (0 : Int32)), .val (.ref b1), .val (.ref b2), .val (.int (0 : Int32)), .val (.int (1 : Int32)), .val (.int (0 : Int32))]) (S' := [(.int (0 : Int32))]) rfl ?_
      exact Run.retw hK (i := .ireturn) rfl (Or.inl ⟨rfl, Or.inr (Or.inl rfl), _, rfl⟩) (by decide +kernel) (by decide) (by decide) ⟨rfl, _, rfl, Or.inr ⟨rfl, fun z => hr z.2⟩⟩
  · replace q0 := (h_le _ _).2 q0
    refine Run.pure hK (seg := [(17, .iconst 0, 1)]) (by decide +kernel) (pc' := 18) (L' := #[.val (.ref x), .val (.ref y), .val (.int (0 : Int32)), .unset, .unset, .unset, .unset, .unset]) (S' := [(.int (0 : Int32))]) rfl ?_
    exact Run.retw hK (i := .ireturn) rfl (Or.inl ⟨rfl, Or.inr (Or.inl rfl), _, rfl⟩) (by decide +kernel) (by decide) (by decide) ⟨rfl, _, rfl, Or.inr ⟨rfl, fun z => by rw [Int32.lt_iff_toInt_lt, tI0] at q0; omega⟩⟩
set_option maxRecDepth 65536 in
set_option maxHeartbeats 40000000 in
theorem c_sw1 {l : Launch} {Z : State} {a0 : Array Value} {z0 : Int32} {fm : Value} (G : Env1 Z a0 z0 fm) (x y : Addr) (d : Int32) {cs : List Int32} (h : Heap) (F : Str Z h x cs) (D : Str Z h y [d]) : Ctr Z consts_1 false l [] (⟨"java/lang/String", "startsWith", "(Ljava/lang/String;)Z"⟩ : MethodName) jdk_42_method_76_code 2 (some .boolean) ({ frames := 3, cells := 0, slots := 0, locals := 64 } : Room) #[(.ref x), (.ref y)] h [] (fun v h' => h' = h ∧ ∃ r, v = some (.int r) ∧ ((r = 1 ∧ 0 < cs.length ∧ cs.getD 0 0 = d) ∨ (r = 0 ∧ ¬ (0 < cs.length ∧ cs.getD 0 0 = d)))) := by
  obtain ⟨hw, hEL, O2, P5, O4⟩ := id G
  refine Ctr.of_run (a0 := a0) (L0 := #[.val (.ref x), .val (.ref y)]) (plainFor_of_name pn_str) hEL (by first | (simp [argsToLocals, Value.category, maxLocals]; done) | rfl) (fun K hK => ?_)
  refine Run.pure hK (seg := [(0, .aload_n 0, 1), (1, .aload_n 1, 1), (2, .iconst 0, 1)]) (by decide +kernel) (pc' := 3) (L' := #[.val (.ref x), .val (.ref y)]) (S' := [(.int (0 : Int32)), (.ref y), (.ref x)]) rfl ?_
  refine Run.virtual hK (index := 624) (y := (⟨"java/lang/String", "startsWith", "(Ljava/lang/String;I)Z"⟩ : MethodName)) (z := (⟨"java/lang/String", "startsWith", "(Ljava/lang/String;I)Z"⟩ : MethodName)) (C := "java/lang/String") (Wt := 0) (kc := 0) (ks := 0) (hw _ (List.mem_of_getElem? (i := 131) rfl)) (hw _ (List.mem_of_getElem? (i := 132) rfl)) (nfS (hw _ (List.mem_of_getElem? (i := 134) rfl))) (hw _ (List.mem_of_getElem? (i := 134) rfl)) (hw _ (List.mem_of_getElem? (i := 133) rfl)) (by decide) (a := x) F.1 (W' := []) (fun _ q => nomatch q) (Ctr.cal (c_sw2 G x y d h F D) (hw _ (List.mem_of_getElem? (i := 135) rfl)) (hw _ (List.mem_of_getElem? (i := 20) rfl)) (by decide) (by decide)) rfl (argsL := [(.ref y), (.int (0 : Int32))]) (rest := []) (lenOf pd_sw2 rfl) rfl (Nat.le_of_ble_eq_true rfl) (by decide +kernel) (by decide) (by decide) (fun v1 h1 q1 n1 => ?_)
  obtain ⟨rfl, r, rfl, hr⟩ := q1
  rcases hr with ⟨rfl, hr⟩ | ⟨rfl, hr⟩
  · exact Run.retw hK (i := .ireturn) rfl (Or.inl ⟨rfl, Or.inr (Or.inl rfl), _, rfl⟩) (by decide +kernel) (by decide) (by decide) ⟨rfl, _, rfl, Or.inl ⟨rfl, hr⟩⟩
  · exact Run.retw hK (i := .ireturn) rfl (Or.inl ⟨rfl, Or.inr (Or.inl rfl), _, rfl⟩) (by decide +kernel) (by decide) (by decide) ⟨rfl, _, rfl, Or.inr ⟨rfl, hr⟩⟩
set_option maxRecDepth 65536 in
set_option maxHeartbeats 40000000 in
theorem c_prt {l : Launch} {Z : State} {a0 : Array Value} {z0 : Int32} {fm : Value} (G : Env1 Z a0 z0 fm) (x : Int32) (h : Heap) : Ctr Z consts_1 false l [] (⟨"com/example/libidem/libidem/http/KeyHeaderParsePinLaw", "printable", "(I)C"⟩ : MethodName) method_2_code 1 (some .char) ({ frames := 0, cells := 0, slots := 0, locals := 0 } : Room) #[(.int x)] h [] (fun v h' => h' = h ∧ ∃ r, v = some (.int r) ∧ prt r) := by
  obtain ⟨hw, hEL, O2, P5, O4⟩ := id G
  refine Ctr.of_run (a0 := a0) (L0 := #[.val (.int x)]) (plainFor_of_name pn_law) hEL (by first | (simp [argsToLocals, Value.category, maxLocals]; done) | rfl) (fun K hK => ?_)
  refine Run.pure hK (seg := [(0, .bipush 32, 2), (2, .iload_n 0, 1)]) (by decide +kernel) (pc' := 3) (L' := #[.val (.int x)]) (S' := [(.int x), (.int (32 : Int32))]) rfl ?_
  refine Run.ldci hK (index := 7) (hw _ (List.mem_of_getElem? (i := 4) rfl)) (by decide +kernel) ?_
  refine Run.pure hK (seg := [(5, .iand, 1), (6, .bipush 95, 2), (8, .irem, 1), (9, .iadd, 1), (10, .i2c, 1)]) (by decide +kernel) (pc' := 11) (L' := #[.val (.int x)]) (S' := [(.int ((32 : Int32) + ((x &&& (2147483647 : Int32)) % (95 : Int32))).toUInt32.toUInt16.toUInt32.toInt32)]) rfl ?_
  have ok : prt ((32 : Int32) + ((x &&& (2147483647 : Int32)) % (95 : Int32))) := by
    have q1 := c_and x 2147483647 (by decide)
    have q2 := (c_irem (x &&& 2147483647) 95 95 rfl).1 q1.1
    have q3 := c_iadd 32 ((x &&& 2147483647) % 95)
    have q4 := rng32 (32 + (x &&& 2147483647) % 95)
    have e1 : (32 : Int32).toInt = 32 := rfl
    have e2 : (126 : Int32).toInt = 126 := rfl
    unfold prt; rw [Int32.lt_iff_toInt_lt, Int32.lt_iff_toInt_lt, e1, e2]; omega
  rw [c16 (prt_in ok).1 (lt255 (prt_in ok).2)]
  exact Run.retw hK (i := .ireturn) (nrc (prt_in ok)) (Or.inl ⟨rfl, Or.inr (Or.inr (Or.inr (Or.inl rfl))), _, rfl⟩) (by decide +kernel) (by decide) (by decide) ⟨rfl, _, rfl, ok⟩
set_option maxRecDepth 65536 in
set_option maxHeartbeats 40000000 in
theorem c_esc {l : Launch} {Z : State} {a0 : Array Value} {z0 : Int32} {fm : Value} (G : Env1 Z a0 z0 fm) (x : Int32) (h : Heap) : Ctr Z consts_1 false l [] (⟨"com/example/libidem/libidem/http/KeyHeaderParsePinLaw", "esc", "(C)Z"⟩ : MethodName) method_4_code 1 (some .boolean) ({ frames := 0, cells := 0, slots := 0, locals := 0 } : Room) #[(.int x)] h [] (fun v h' => h' = h ∧ ∃ r, v = some (.int r) ∧ ((r = 1 ∧ (x = 34 ∨ x = 92)) ∨ (r = 0 ∧ ¬ (x = 34 ∨ x = 92)))) := by
  obtain ⟨hw, hEL, O2, P5, O4⟩ := id G
  refine Ctr.of_run (a0 := a0) (L0 := #[.val (.int x)]) (plainFor_of_name pn_law) hEL (by first | (simp [argsToLocals, Value.category, maxLocals]; done) | rfl) (fun K hK => ?_)
  refine Run.pure hK (seg := [(0, .iload_n 0, 1), (1, .bipush 34, 2)]) (by decide +kernel) (pc' := 3) (L' := #[.val (.int x)]) (S' := [(.int (34 : Int32)), (.int x)]) rfl ?_
  refine Run.icmp hK (cd := .eq) (o := 9) (by decide +kernel) (by decide) (pc' := 12) rfl (fun q1 => ?_) (fun q1 => ?_)
  · replace q1 := (h_eq _ _).1 q1
    refine Run.pure hK (seg := [(12, .iconst 1, 1), (13, .goto 4, 3)]) (by decide +kernel) (pc' := 17) (L' := #[.val (.int x)]) (S' := [(.int (1 : Int32))]) rfl ?_
    exact Run.retw hK (i := .ireturn) rfl (Or.inl ⟨rfl, Or.inr (Or.inl rfl), _, rfl⟩) (by decide +kernel) (by decide) (by decide) ⟨rfl, _, rfl, Or.inl ⟨rfl, Or.inl q1⟩⟩
  · replace q1 := (h_eq _ _).2 q1
    refine Run.pure hK (seg := [(6, .iload_n 0, 1), (7, .bipush 92, 2)]) (by decide +kernel) (pc' := 9) (L' := #[.val (.int x)]) (S' := [(.int (92 : Int32)), (.int x)]) rfl ?_
    refine Run.icmp hK (cd := .ne) (o := 7) (by decide +kernel) (by decide) (pc' := 16) rfl (fun q2 => ?_) (fun q2 => ?_)
    · replace q2 := (h_ne _ _).1 q2
      refine Run.pure hK (seg := [(16, .iconst 0, 1)]) (by decide +kernel) (pc' := 17) (L' := #[.val (.int x)]) (S' := [(.int (0 : Int32))]) rfl ?_
      exact Run.retw hK (i := .ireturn) rfl (Or.inl ⟨rfl, Or.inr (Or.inl rfl), _, rfl⟩) (by decide +kernel) (by decide) (by decide) ⟨rfl, _, rfl, Or.inr ⟨rfl, fun z => z.elim q1 q2⟩⟩
    · replace q2 := (h_ne _ _).2 q2
      refine Run.pure hK (seg := [(12, .iconst 1, 1), (13, .goto 4, 3)]) (by decide +kernel) (pc' := 17) (L' := #[.val (.int x)]) (S' := [(.int (1 : Int32))]) rfl ?_
      exact Run.retw hK (i := .ireturn) rfl (Or.inl ⟨rfl, Or.inr (Or.inl rfl), _, rfl⟩) (by decide +kernel) (by decide) (by decide) ⟨rfl, _, rfl, Or.inl ⟨rfl, Or.inr q2⟩⟩
set_option maxRecDepth 65536 in
set_option maxHeartbeats 40000000 in
theorem c_ise {l : Launch} {Z : State} {a0 : Array Value} {z0 : Int32} {fm : Value} (G : Env1 Z a0 z0 fm) (x : Int32) (h : Heap) : Ctr Z consts_1 false l [] (⟨"com/example/libidem/libidem/http/KeyHeader", "isEscaped", "(C)Z"⟩ : MethodName) prog_26_method_5_code 1 (some .boolean) ({ frames := 0, cells := 0, slots := 0, locals := 0 } : Room) #[(.int x)] h [] (fun v h' => h' = h ∧ ∃ r, v = some (.int r) ∧ ((r = 1 ∧ (x = 34 ∨ x = 92)) ∨ (r = 0 ∧ ¬ (x = 34 ∨ x = 92)))) := by
  obtain ⟨hw, hEL, O2, P5, O4⟩ := id G
  refine Ctr.of_run (a0 := a0) (L0 := #[.val (.int x)]) (plainFor_of_name pn_kh) hEL (by first | (simp [argsToLocals, Value.category, maxLocals]; done) | rfl) (fun K hK => ?_)
  refine Run.pure hK (seg := [(0, .iload_n 0, 1), (1, .bipush 34, 2)]) (by decide +kernel) (pc' := 3) (L' := #[.val (.int x)]) (S' := [(.int (34 : Int32)), (.int x)]) rfl ?_
  refine Run.icmp hK (cd := .eq) (o := 9) (by decide +kernel) (by decide) (pc' := 12) rfl (fun q1 => ?_) (fun q1 => ?_)
  · replace q1 := (h_eq _ _).1 q1
    refine Run.pure hK (seg := [(12, .iconst 1, 1), (13, .goto 4, 3)]) (by decide +kernel) (pc' := 17) (L' := #[.val (.int x)]) (S' := [(.int (1 : Int32))]) rfl ?_
    exact Run.retw hK (i := .ireturn) rfl (Or.inl ⟨rfl, Or.inr (Or.inl rfl), _, rfl⟩) (by decide +kernel) (by decide) (by decide) ⟨rfl, _, rfl, Or.inl ⟨rfl, Or.inl q1⟩⟩
  · replace q1 := (h_eq _ _).2 q1
    refine Run.pure hK (seg := [(6, .iload_n 0, 1), (7, .bipush 92, 2)]) (by decide +kernel) (pc' := 9) (L' := #[.val (.int x)]) (S' := [(.int (92 : Int32)), (.int x)]) rfl ?_
    refine Run.icmp hK (cd := .ne) (o := 7) (by decide +kernel) (by decide) (pc' := 16) rfl (fun q2 => ?_) (fun q2 => ?_)
    · replace q2 := (h_ne _ _).1 q2
      refine Run.pure hK (seg := [(16, .iconst 0, 1)]) (by decide +kernel) (pc' := 17) (L' := #[.val (.int x)]) (S' := [(.int (0 : Int32))]) rfl ?_
      exact Run.retw hK (i := .ireturn) rfl (Or.inl ⟨rfl, Or.inr (Or.inl rfl), _, rfl⟩) (by decide +kernel) (by decide) (by decide) ⟨rfl, _, rfl, Or.inr ⟨rfl, fun z => z.elim q1 q2⟩⟩
    · replace q2 := (h_ne _ _).2 q2
      refine Run.pure hK (seg := [(12, .iconst 1, 1), (13, .goto 4, 3)]) (by decide +kernel) (pc' := 17) (L' := #[.val (.int x)]) (S' := [(.int (1 : Int32))]) rfl ?_
      exact Run.retw hK (i := .ireturn) rfl (Or.inl ⟨rfl, Or.inr (Or.inl rfl), _, rfl⟩) (by decide +kernel) (by decide) (by decide) ⟨rfl, _, rfl, Or.inl ⟨rfl, Or.inr q2⟩⟩
set_option maxRecDepth 65536 in
set_option maxHeartbeats 40000000 in
theorem c_isb {l : Launch} {Z : State} {a0 : Array Value} {z0 : Int32} {fm : Value} (G : Env1 Z a0 z0 fm) (x : Int32) (h : Heap) : Ctr Z consts_1 false l [] (⟨"com/example/libidem/libidem/http/KeyHeader", "isBlank", "(C)Z"⟩ : MethodName) prog_26_method_6_code 1 (some .boolean) ({ frames := 0, cells := 0, slots := 0, locals := 0 } : Room) #[(.int x)] h [] (fun v h' => h' = h ∧ ∃ r, v = some (.int r) ∧ ((r = 1 ∧ bl x) ∨ (r = 0 ∧ ¬ bl x))) := by
  obtain ⟨hw, hEL, O2, P5, O4⟩ := id G
  refine Ctr.of_run (a0 := a0) (L0 := #[.val (.int x)]) (plainFor_of_name pn_kh) hEL (by first | (simp [argsToLocals, Value.category, maxLocals]; done) | rfl) (fun K hK => ?_)
  refine Run.pure hK (seg := [(0, .iload_n 0, 1), (1, .bipush 32, 2)]) (by decide +kernel) (pc' := 3) (L' := #[.val (.int x)]) (S' := [(.int (32 : Int32)), (.int x)]) rfl ?_
  refine Run.icmp hK (cd := .eq) (o := 9) (by decide +kernel) (by decide) (pc' := 12) rfl (fun q1 => ?_) (fun q1 => ?_)
  · replace q1 := (h_eq _ _).1 q1
    refine Run.pure hK (seg := [(12, .iconst 1, 1), (13, .goto 4, 3)]) (by decide +kernel) (pc' := 17) (L' := #[.val (.int x)]) (S' := [(.int (1 : Int32))]) rfl ?_
    exact Run.retw hK (i := .ireturn) rfl (Or.inl ⟨rfl, Or.inr (Or.inl rfl), _, rfl⟩) (by decide +kernel) (by decide) (by decide) ⟨rfl, _, rfl, Or.inl ⟨rfl, Or.inl q1⟩⟩
  · replace q1 := (h_eq _ _).2 q1
    refine Run.pure hK (seg := [(6, .iload_n 0, 1), (7, .bipush 9, 2)]) (by decide +kernel) (pc' := 9) (L' := #[.val (.int x)]) (S' := [(.int (9 : Int32)), (.int x)]) rfl ?_
    refine Run.icmp hK (cd := .ne) (o := 7) (by decide +kernel) (by decide) (pc' := 16) rfl (fun q2 => ?_) (fun q2 => ?_)
    · replace q2 := (h_ne _ _).1 q2
      refine Run.pure hK (seg := [(16, .iconst 0, 1)]) (by decide +kernel) (pc' := 17) (L' := #[.val (.int x)]) (S' := [(.int (0 : Int32))]) rfl ?_
      exact Run.retw hK (i := .ireturn) rfl (Or.inl ⟨rfl, Or.inr (Or.inl rfl), _, rfl⟩) (by decide +kernel) (by decide) (by decide) ⟨rfl, _, rfl, Or.inr ⟨rfl, fun z => Or.elim z q1 q2⟩⟩
    · replace q2 := (h_ne _ _).2 q2
      refine Run.pure hK (seg := [(12, .iconst 1, 1), (13, .goto 4, 3)]) (by decide +kernel) (pc' := 17) (L' := #[.val (.int x)]) (S' := [(.int (1 : Int32))]) rfl ?_
      exact Run.retw hK (i := .ireturn) rfl (Or.inl ⟨rfl, Or.inr (Or.inl rfl), _, rfl⟩) (by decide +kernel) (by decide) (by decide) ⟨rfl, _, rfl, Or.inl ⟨rfl, Or.inr q2⟩⟩
set_option maxRecDepth 65536 in
set_option maxHeartbeats 40000000 in
theorem c_bok {l : Launch} {Z : State} {a0 : Array Value} {z0 : Int32} {fm : Value} (G : Env1 Z a0 z0 fm) (x : Int32) (h : Heap) : Ctr Z consts_1 false l [] (⟨"com/example/libidem/libidem/http/KeyHeaderParsePinLaw", "bareOk", "(C)Z"⟩ : MethodName) method_3_code 1 (some .boolean) ({ frames := 0, cells := 0, slots := 0, locals := 0 } : Room) #[(.int x)] h [] (fun v h' => h' = h ∧ ∃ r, v = some (.int r) ∧ ((r = 1 ∧ bok x) ∨ (r = 0 ∧ ¬ bok x))) := by
  obtain ⟨hw, hEL, O2, P5, O4⟩ := id G
  refine Ctr.of_run (a0 := a0) (L0 := #[.val (.int x)]) (plainFor_of_name pn_law) hEL (by first | (simp [argsToLocals, Value.category, maxLocals]; done) | rfl) (fun K hK => ?_)
  refine Run.pure hK (seg := [(0, .iload_n 0, 1), (1, .bipush 32, 2)]) (by decide +kernel) (pc' := 3) (L' := #[.val (.int x)]) (S' := [(.int (32 : Int32)), (.int x)]) rfl ?_
  refine Run.icmp hK (cd := .eq) (o := 19) (by decide +kernel) (by decide) (pc' := 22) rfl (fun q1 => ?_) (fun q1 => ?_)
  · replace q1 := (h_eq _ _).1 q1
    refine Run.pure hK (seg := [(22, .iconst 0, 1)]) (by decide +kernel) (pc' := 23) (L' := #[.val (.int x)]) (S' := [(.int (0 : Int32))]) rfl ?_
    exact Run.retw hK (i := .ireturn) rfl (Or.inl ⟨rfl, Or.inr (Or.inl rfl), _, rfl⟩) (by decide +kernel) (by decide) (by decide) ⟨rfl, _, rfl, Or.inr ⟨rfl, fun z => z.1 q1⟩⟩
  · replace q1 := (h_eq _ _).2 q1
    refine Run.pure hK (seg := [(6, .iload_n 0, 1), (7, .bipush 34, 2)]) (by decide +kernel) (pc' := 9) (L' := #[.val (.int x)]) (S' := [(.int (34 : Int32)), (.int x)]) rfl ?_
    refine Run.icmp hK (cd := .eq) (o := 13) (by decide +kernel) (by decide) (pc' := 22) rfl (fun q2 => ?_) (fun q2 => ?_)
    · replace q2 := (h_eq _ _).1 q2
      refine Run.pure hK (seg := [(22, .iconst 0, 1)]) (by decide +kernel) (pc' := 23) (L' := #[.val (.int x)]) (S' := [(.int (0 : Int32))]) rfl ?_
      exact Run.retw hK (i := .ireturn) rfl (Or.inl ⟨rfl, Or.inr (Or.inl rfl), _, rfl⟩) (by decide +kernel) (by decide) (by decide) ⟨rfl, _, rfl, Or.inr ⟨rfl, fun z => z.2.1 q2⟩⟩
    · replace q2 := (h_eq _ _).2 q2
      refine Run.pure hK (seg := [(12, .iload_n 0, 1), (13, .bipush 92, 2)]) (by decide +kernel) (pc' := 15) (L' := #[.val (.int x)]) (S' := [(.int (92 : Int32)), (.int x)]) rfl ?_
      refine Run.icmp hK (cd := .eq) (o := 7) (by decide +kernel) (by decide) (pc' := 22) rfl (fun q3 => ?_) (fun q3 => ?_)
      · replace q3 := (h_eq _ _).1 q3
        refine Run.pure hK (seg := [(22, .iconst 0, 1)]) (by decide +kernel) (pc' := 23) (L' := #[.val (.int x)]) (S' := [(.int (0 : Int32))]) rfl ?_
        exact Run.retw hK (i := .ireturn) rfl (Or.inl ⟨rfl, Or.inr (Or.inl rfl), _, rfl⟩) (by decide +kernel) (by decide) (by decide) ⟨rfl, _, rfl, Or.inr ⟨rfl, fun z => z.2.2 q3⟩⟩
      · replace q3 := (h_eq _ _).2 q3
        refine Run.pure hK (seg := [(18, .iconst 1, 1), (19, .goto 4, 3)]) (by decide +kernel) (pc' := 23) (L' := #[.val (.int x)]) (S' := [(.int (1 : Int32))]) rfl ?_
        exact Run.retw hK (i := .ireturn) rfl (Or.inl ⟨rfl, Or.inr (Or.inl rfl), _, rfl⟩) (by decide +kernel) (by decide) (by decide) ⟨rfl, _, rfl, Or.inl ⟨rfl, q1, q2, q3⟩⟩
set_option maxRecDepth 65536 in
set_option maxHeartbeats 40000000 in
theorem c_blk {l : Launch} {Z : State} {a0 : Array Value} {z0 : Int32} {fm : Value} (G : Env1 Z a0 z0 fm) (x y : Int32) (h : Heap) : Ctr Z consts_1 false l [] (⟨"com/example/libidem/libidem/http/KeyHeaderParsePinLaw", "blank", "(II)C"⟩ : MethodName) method_5_code 2 (some .char) ({ frames := 0, cells := 0, slots := 0, locals := 0 } : Room) #[(.int x), (.int y)] h [] (fun v h' => h' = h ∧ ∃ r, v = some (.int r) ∧ bl r ∧ ¬ r < 0 ∧ ¬ (255 : Int32) < r) := by
  obtain ⟨hw, hEL, O2, P5, O4⟩ := id G
  refine Ctr.of_run (a0 := a0) (L0 := #[.val (.int x), .val (.int y)]) (plainFor_of_name pn_law) hEL (by first | (simp [argsToLocals, Value.category, maxLocals]; done) | rfl) (fun K hK => ?_)
  refine Run.pure hK (seg := [(0, .iload_n 0, 1), (1, .iload_n 1, 1), (2, .iushr, 1), (3, .iconst 1, 1), (4, .iand, 1)]) (by decide +kernel) (pc' := 5) (L' := #[.val (.int x), .val (.int y)]) (S' := [(.int ((XT.ushr x y) &&& (1 : Int32)))]) rfl ?_
  refine Run.ifz hK (cd := .eq) (o := 8) (by decide +kernel) (by decide) (pc' := 13) rfl (fun q1 => ?_) (fun q1 => ?_)
  · replace q1 := (h_eq _ _).1 q1
    refine Run.pure hK (seg := [(13, .bipush 32, 2)]) (by decide +kernel) (pc' := 15) (L' := #[.val (.int x), .val (.int y)]) (S' := [(.int (32 : Int32))]) rfl ?_
    exact Run.retw hK (i := .ireturn) rfl (Or.inl ⟨rfl, Or.inr (Or.inr (Or.inr (Or.inl rfl))), _, rfl⟩) (by decide +kernel) (by decide) (by decide) ⟨rfl, _, rfl, Or.inl rfl, by decide, by decide⟩
  · replace q1 := (h_eq _ _).2 q1
    refine Run.pure hK (seg := [(8, .bipush 9, 2), (10, .goto 5, 3)]) (by decide +kernel) (pc' := 15) (L' := #[.val (.int x), .val (.int y)]) (S' := [(.int (9 : Int32))]) rfl ?_
    exact Run.retw hK (i := .ireturn) rfl (Or.inl ⟨rfl, Or.inr (Or.inr (Or.inr (Or.inl rfl))), _, rfl⟩) (by decide +kernel) (by decide) (by decide) ⟨rfl, _, rfl, Or.inr rfl, by decide, by decide⟩
set_option maxRecDepth 65536 in
set_option maxHeartbeats 40000000 in
theorem c_put {l : Launch} {Z : State} {a0 : Array Value} {z0 : Int32} {fm : Value} (G : Env1 Z a0 z0 fm) (a : Addr) (u x q : Int32) (lo : Nat) {Bl w : List Int32} {k : ClassId} (h : Heap) (A : Arv Z h a k .char 8 ((Sp Bl lo w).map Value.int) (.int 0)) (ge : Z.heap.size ≤ a) (hB : Bl.length = 8) (hl : lo + (w ++ (if u = 0 then [] else e1 q x)).length ≤ 8) (hx : ¬ x < 0 ∧ ¬ (255 : Int32) < x) : Ctr Z consts_1 false l [] (⟨"com/example/libidem/libidem/http/KeyHeaderParsePinLaw", "put", "([CIZCZ)I"⟩ : MethodName) method_6_code 6 (some .int) ({ frames := 1, cells := 0, slots := 0, locals := 14 } : Room) #[(.ref a), (.int (Int32.ofNat (lo + w.length))), (.int u), (.int x), (.int q)] h [] (fun v h' => v = some (.int (Int32.ofNat (lo + (w ++ (if u = 0 then [] else e1 q x)).length))) ∧ Arv Z h' a k .char 8 ((Sp Bl lo (w ++ (if u = 0 then [] else e1 q x))).map Value.int) (.int 0) ∧ Keep h h' [a]) := by
  obtain ⟨hw, hEL, O2, P5, O4⟩ := id G
  refine Ctr.of_run (a0 := a0) (L0 := #[.val (.ref a), .val (.int (Int32.ofNat (lo + w.length))), .val (.int u), .val (.int x), .val (.int q), .unset]) (plainFor_of_name pn_law) hEL (by first | (simp [argsToLocals, Value.category, maxLocals]; done) | rfl) (fun K hK => ?_)
  refine Run.pure hK (seg := [(0, .iload_n 2, 1)]) (by decide +kernel) (pc' := 1) (L' := #[.val (.ref a), .val (.int (Int32.ofNat (lo + w.length))), .val (.int u), .val (.int x), .val (.int q), .unset]) (S' := [(.int u)]) rfl ?_
  refine Run.ifz hK (cd := .ne) (o := 5) (by decide +kernel) (by decide) (pc' := 6) rfl (fun q0 => ?_) (fun q0 => ?_)
  · replace q0 := (h_ne _ _).1 q0
    rw [if_neg q0] at hl ⊢
    refine Run.pure hK (seg := [(6, .iload_n 1, 1), (7, .istore 5, 2), (9, .iload 4, 2)]) (by decide +kernel) (pc' := 11) (L' := #[.val (.ref a), .val (.int (Int32.ofNat (lo + w.length))), .val (.int u), .val (.int x), .val (.int q), .val (.int (Int32.ofNat (lo + w.length)))]) (S' := [(.int q)]) rfl ?_
    refine Run.ifz hK (cd := .eq) (o := 19) (by decide +kernel) (by decide) (pc' := 30) rfl (fun r0 => ?_) (fun r0 => ?_)
    · replace r0 := (h_eq _ _).1 r0
      have ee : e1 q x = [x] := by unfold e1; rw [if_pos r0]
      have wl : lo + w.length < 8 := by rw [ee, List.length_append, List.length_singleton] at hl; omega
      rw [ee]
      refine Run.pure hK (seg := [(30, .aload_n 0, 1), (31, .iload 5, 2), (33, .iload_n 3, 1)]) (by decide +kernel) (pc' := 34) (L' := #[.val (.ref a), .val (.int (Int32.ofNat (lo + w.length))), .val (.int u), .val (.int x), .val (.int q), .val (.int (Int32.ofNat (lo + w.length)))]) (S' := [(.int x), (.int (Int32.ofNat (lo + w.length))), (.ref a)]) rfl ?_
      refine Run.cst hK A ⟨ofN_nn (by omega), by rw [Int32.lt_iff_toInt_lt, ofN (by omega), show (8 : Int32).toInt = 8 from rfl]; omega⟩ ge (by decide +kernel) (fun h1 W1 B1 => ?_)
      have A1 : Arv Z h1 a k .char 8 ((Sp Bl lo (w ++ [x])).map Value.int) (.int 0) := by
        rw [← Sp_set (by omega), List.map_set]; rw [nc hx, ofN_nat (by omega : lo + w.length ≤ 4000)] at B1
        exact B1.pad (set_pad2 _ _ (by rw [List.length_map, Sp_len (by omega)]; omega))
      refine Run.pure hK (seg := [(35, .iload 5, 2), (37, .iconst 1, 1), (38, .iadd, 1)]) (by decide +kernel) (pc' := 39) (L' := #[.val (.ref a), .val (.int (Int32.ofNat (lo + w.length))), .val (.int u), .val (.int x), .val (.int q), .val (.int (Int32.ofNat (lo + w.length)))]) (S' := [(.int ((Int32.ofNat (lo + w.length)) + (1 : Int32)))]) rfl ?_
      rw [show Int32.ofNat (lo + w.length) + (1 : Int32) = Int32.ofNat (lo + (w ++ [x]).length) from by rw [List.length_append]; exact ofN_add (n := lo + w.length) (m := 1) (by omega)]
      exact Run.retw hK (i := .ireturn) rfl (Or.inl ⟨rfl, Or.inl rfl, _, rfl⟩) (by decide +kernel) (by decide) (by decide) ⟨rfl, A1, (Keep.refl _ _).wr W1 (Or.inl (List.mem_singleton.mpr rfl))⟩
    · replace r0 := (h_eq _ _).2 r0
      refine Run.pure hK (seg := [(14, .iload_n 3, 1)]) (by decide +kernel) (pc' := 15) (L' := #[.val (.ref a), .val (.int (Int32.ofNat (lo + w.length))), .val (.int u), .val (.int x), .val (.int q), .val (.int (Int32.ofNat (lo + w.length)))]) (S' := [(.int x)]) rfl ?_
      refine Run.static hK (index := 8) (y := (⟨"com/example/libidem/libidem/http/KeyHeaderParsePinLaw", "esc", "(C)Z"⟩ : MethodName)) (Wt := 0) (kc := 0) (ks := 0) (hw _ (List.mem_of_getElem? (i := 8) rfl)) (hw _ (List.mem_of_getElem? (i := 9) rfl)) (hw _ (List.mem_of_getElem? (i := 2) rfl)) (hw _ (List.mem_of_getElem? (i := 10) rfl)) (by decide) (W' := []) (fun _ q => nomatch q) (Ctr.cal (c_esc G x h) (hw _ (List.mem_of_getElem? (i := 10) rfl)) (hw _ (List.mem_of_getElem? (i := 2) rfl)) (by decide) (by decide)) rfl (argsL := [(.int x)]) (rest := []) (lenOf pd_cz rfl) rfl (Nat.le_of_ble_eq_true rfl) (by decide +kernel) (by decide) (by decide) (fun v2 h2 q2 n2 => ?_)
      obtain ⟨rfl, r, rfl, hr⟩ := q2
      rcases hr with ⟨rfl, hr⟩ | ⟨rfl, hr⟩
      · refine Run.ifz hK (cd := .eq) (o := 12) (by decide +kernel) (by decide) (pc' := 30) rfl (fun q => by replace q := (h_eq _ _).1 q; exact absurd q (by decide)) (fun _ => ?_)
        have ee : e1 q x = [(92 : Int32), x] := by unfold e1; rw [if_neg r0, if_pos hr]
        have wl : lo + w.length + 1 < 8 := by rw [ee, List.length_append] at hl; have : ([(92 : Int32), x] : List Int32).length = 2 := rfl; omega
        rw [ee]
        refine Run.pure hK (seg := [(21, .aload_n 0, 1), (22, .iload 5, 2), (24, .bipush 92, 2)]) (by decide +kernel) (pc' := 26) (L' := #[.val (.ref a), .val (.int (Int32.ofNat (lo + w.length))), .val (.int u), .val (.int x), .val (.int q), .val (.int (Int32.ofNat (lo + w.length)))]) (S' := [(.int (92 : Int32)), (.int (Int32.ofNat (lo + w.length))), (.ref a)]) rfl ?_
        refine Run.cst hK A ⟨ofN_nn (by omega), by rw [Int32.lt_iff_toInt_lt, ofN (by omega), show (8 : Int32).toInt = 8 from rfl]; omega⟩ ge (by decide +kernel) (fun h3 W3 B3 => ?_)
        have A3 : Arv Z h3 a k .char 8 ((Sp Bl lo (w ++ [92])).map Value.int) (.int 0) := by
          rw [← Sp_set (by omega), List.map_set]; rw [ofN_nat (by omega : lo + w.length ≤ 4000)] at B3
          exact B3.pad (set_pad2 _ _ (by rw [List.length_map, Sp_len (by omega)]; omega))
        refine Run.pure hK (seg := [(27, .iinc 5 1, 3), (30, .aload_n 0, 1), (31, .iload 5, 2), (33, .iload_n 3, 1)]) (by decide +kernel) (pc' := 34) (L' := #[.val (.ref a), .val (.int (Int32.ofNat (lo + w.length))), .val (.int u), .val (.int x), .val (.int q), .val (.int ((Int32.ofNat (lo + w.length)) + (1 : Int32)))]) (S' := [(.int x), (.int ((Int32.ofNat (lo + w.length)) + (1 : Int32))), (.ref a)]) rfl ?_
        have l1 : (w ++ [(92 : Int32)]).length = w.length + 1 := by simp
        rw [show Int32.ofNat (lo + w.length) + (1 : Int32) = Int32.ofNat (lo + (w ++ [(92 : Int32)]).length) from by rw [l1]; exact ofN_add (n := lo + w.length) (m := 1) (by omega)]
        refine Run.cst hK A3 ⟨ofN_nn (by omega), by rw [Int32.lt_iff_toInt_lt, ofN (by omega), show (8 : Int32).toInt = 8 from rfl]; omega⟩ ge (by decide +kernel) (fun h4 W4 B4 => ?_)
        have A4 : Arv Z h4 a k .char 8 ((Sp Bl lo ((w ++ [(92 : Int32)]) ++ [x])).map Value.int) (.int 0) := by
          rw [← Sp_set (by omega), List.map_set]; rw [nc hx, ofN_nat (by omega : lo + (w ++ [(92 : Int32)]).length ≤ 4000)] at B4
          exact B4.pad (set_pad2 _ _ (by rw [List.length_map, Sp_len (by omega)]; omega))
        refine Run.pure hK (seg := [(35, .iload 5, 2), (37, .iconst 1, 1), (38, .iadd, 1)]) (by decide +kernel) (pc' := 39) (L' := #[.val (.ref a), .val (.int (Int32.ofNat (lo + w.length))), .val (.int u), .val (.int x), .val (.int q), .val (.int (Int32.ofNat (lo + (w ++ [(92 : Int32)]).length)))]) (S' := [(.int ((Int32.ofNat (lo + (w ++ [(92 : Int32)]).length)) + (1 : Int32)))]) rfl ?_
        rw [show Int32.ofNat (lo + (w ++ [(92 : Int32)]).length) + (1 : Int32) = Int32.ofNat (lo + (w ++ [(92 : Int32), x]).length) from by rw [l1, show (w ++ [(92 : Int32), x]).length = w.length + 2 by simp]; exact ofN_add (n := lo + (w.length + 1)) (m := 1) (by omega)]
        rw [List.append_assoc] at A4
        exact Run.retw hK (i := .ireturn) rfl (Or.inl ⟨rfl, Or.inl rfl, _, rfl⟩) (by decide +kernel) (by decide) (by decide) ⟨rfl, A4, ((Keep.refl _ _).wr W3 (Or.inl (List.mem_singleton.mpr rfl))).wr W4 (Or.inl (List.mem_singleton.mpr rfl))⟩
      · refine Run.ifz hK (cd := .eq) (o := 12) (by decide +kernel) (by decide) (pc' := 30) rfl (fun _ => ?_) (fun q => by replace q := (h_eq _ _).2 q; exact absurd rfl q)
        have ee : e1 q x = [x] := by unfold e1; rw [if_neg r0, if_neg hr]
        have wl : lo + w.length < 8 := by rw [ee, List.length_append, List.length_singleton] at hl; omega
        rw [ee]
        refine Run.pure hK (seg := [(30, .aload_n 0, 1), (31, .iload 5, 2), (33, .iload_n 3, 1)]) (by decide +kernel) (pc' := 34) (L' := #[.val (.ref a), .val (.int (Int32.ofNat (lo + w.length))), .val (.int u), .val (.int x), .val (.int q), .val (.int (Int32.ofNat (lo + w.length)))]) (S' := [(.int x), (.int (Int32.ofNat (lo + w.length))), (.ref a)]) rfl ?_
        refine Run.cst hK A ⟨ofN_nn (by omega), by rw [Int32.lt_iff_toInt_lt, ofN (by omega), show (8 : Int32).toInt = 8 from rfl]; omega⟩ ge (by decide +kernel) (fun h1 W1 B1 => ?_)
        have A1 : Arv Z h1 a k .char 8 ((Sp Bl lo (w ++ [x])).map Value.int) (.int 0) := by
          rw [← Sp_set (by omega), List.map_set]; rw [nc hx, ofN_nat (by omega : lo + w.length ≤ 4000)] at B1
          exact B1.pad (set_pad2 _ _ (by rw [List.length_map, Sp_len (by omega)]; omega))
        refine Run.pure hK (seg := [(35, .iload 5, 2), (37, .iconst 1, 1), (38, .iadd, 1)]) (by decide +kernel) (pc' := 39) (L' := #[.val (.ref a), .val (.int (Int32.ofNat (lo + w.length))), .val (.int u), .val (.int x), .val (.int q), .val (.int (Int32.ofNat (lo + w.length)))]) (S' := [(.int ((Int32.ofNat (lo + w.length)) + (1 : Int32)))]) rfl ?_
        rw [show Int32.ofNat (lo + w.length) + (1 : Int32) = Int32.ofNat (lo + (w ++ [x]).length) from by rw [List.length_append]; exact ofN_add (n := lo + w.length) (m := 1) (by omega)]
        exact Run.retw hK (i := .ireturn) rfl (Or.inl ⟨rfl, Or.inl rfl, _, rfl⟩) (by decide +kernel) (by decide) (by decide) ⟨rfl, A1, (Keep.refl _ _).wr W1 (Or.inl (List.mem_singleton.mpr rfl))⟩
  · replace q0 := (h_ne _ _).2 q0
    rw [if_pos q0, List.append_nil]
    refine Run.pure hK (seg := [(4, .iload_n 1, 1)]) (by decide +kernel) (pc' := 5) (L' := #[.val (.ref a), .val (.int (Int32.ofNat (lo + w.length))), .val (.int u), .val (.int x), .val (.int q), .unset]) (S' := [(.int (Int32.ofNat (lo + w.length)))]) rfl ?_
    exact Run.retw hK (i := .ireturn) rfl (Or.inl ⟨rfl, Or.inl rfl, _, rfl⟩) (by decide +kernel) (by decide) (by decide) ⟨rfl, A, Keep.refl _ _⟩
set_option maxRecDepth 65536 in
set_option maxHeartbeats 40000000 in
theorem c_bare {l : Launch} {Z : State} {a0 : Array Value} {z0 : Int32} {fm : Value} (G : Env1 Z a0 z0 fm) (x : Addr) {ks : List Int32} (h : Heap) (F : Str Z h x ks) (hk : ∀ c ∈ ks, prt c ∧ bok c) : Ctr Z consts_1 false l [] (⟨"com/example/libidem/libidem/http/KeyHeader", "bare", "(Ljava/lang/String;)Ljava/lang/String;"⟩ : MethodName) prog_26_method_4_code 3 (some (.object "java/lang/String")) ({ frames := 4, cells := 0, slots := 0, locals := 60 } : Room) #[(.ref x)] h [] (fun v h' => h' = h ∧ v = some (.ref x)) := by
  obtain ⟨hw, hEL, O2, P5, O4⟩ := id G
  refine Ctr.of_run (a0 := a0) (L0 := #[.val (.ref x), .unset, .unset]) (plainFor_of_name pn_kh) hEL (by first | (simp [argsToLocals, Value.category, maxLocals]; done) | rfl) (fun K hK => ?_)
  have hl := F.2.2.2.2
  have ex : ∀ (i : Nat) (o2 : Slot), i = ks.length → Run Z consts_1 false K (fun v h' => h' = h ∧ v = some (.ref x)) [] h 0 0 2 #[.val (.ref x), .val (.int (Int32.ofNat i)), o2] [] := by
    intro i o2 hi
    refine Run.pure hK (seg := [(2, .iload_n 1, 1), (3, .aload_n 0, 1)]) (by decide +kernel) (pc' := 4) (L' := #[.val (.ref x), .val (.int (Int32.ofNat i)), o2]) (S' := [(.ref x), (.int (Int32.ofNat i))]) rfl ?_
    refine Run.virtual hK (index := 7) (y := (⟨"java/lang/String", "length", "()I"⟩ : MethodName)) (z := (⟨"java/lang/String", "length", "()I"⟩ : MethodName)) (C := "java/lang/String") (Wt := 1) (kc := 0) (ks := 0) (hw _ (List.mem_of_getElem? (i := 51) rfl)) (hw _ (List.mem_of_getElem? (i := 52) rfl)) (nfS (hw _ (List.mem_of_getElem? (i := 54) rfl))) (hw _ (List.mem_of_getElem? (i := 54) rfl)) (hw _ (List.mem_of_getElem? (i := 53) rfl)) (by decide) (a := x) F.1 (fun _ q => q) (cal_len (g_lenW hw) (hw _ (List.mem_of_getElem? (i := 19) rfl)) F O2 P5 (by decide) (by decide)) rfl (argsL := []) (rest := [(.int (Int32.ofNat i))]) (lenOf pd_len rfl) rfl (Nat.le_of_ble_eq_true rfl) (by decide +kernel) (by decide) (by decide) (fun v1 h1 q1 n1 => ?_)
    obtain ⟨rfl, rfl⟩ := q1
    refine Run.icmp hK (cd := .ge) (o := 58) (by decide +kernel) (by decide) (pc' := 65) rfl (fun _ => ?_) (fun q => by replace q := (h_ge _ _).2 q; rw [ofN_lt2 (by omega) (by omega)] at q; omega)
    refine Run.pure hK (seg := [(65, .aload_n 0, 1)]) (by decide +kernel) (pc' := 66) (L' := #[.val (.ref x), .val (.int (Int32.ofNat i)), o2]) (S' := [(.ref x)]) rfl ?_
    exact Run.retw hK (i := .areturn) rfl (Or.inr (Or.inr (Or.inr (Or.inr ⟨rfl, rfl, rfl⟩)))) (by decide +kernel) (by decide) (by decide) ⟨rfl, rfl⟩
  refine Run.pure hK (seg := [(0, .iconst 0, 1), (1, .istore_n 1, 1)]) (by decide +kernel) (pc' := 2) (L' := #[.val (.ref x), .val (.int (0 : Int32)), .unset]) (S' := []) rfl ?_
  have loop : ∀ (m i : Nat) (o2 : Slot), ks.length - i ≤ m → i ≤ ks.length → (o2 = .unset ∨ ∃ y2 : Int32, o2 = .val (.int y2)) → Run Z consts_1 false K (fun v h' => h' = h ∧ v = some (.ref x)) [] h 0 0 2 #[.val (.ref x), .val (.int (Int32.ofNat i)), o2] [] := by
    intro m
    induction m with
    | zero => intro i o2 hm hi ho; exact ex i o2 (by omega)
    | succ m ih =>
      intro i o2 hm hi ho
      by_cases hlt : i < ks.length
      case neg => exact ex i o2 (by omega)
      obtain ⟨hp, hb⟩ := getD_mem hk hlt
      obtain ⟨d, e_d⟩ : ∃ z, z = ks.getD i 0 := ⟨_, rfl⟩
      rw [← e_d] at hp hb
      rcases ho with rfl | ⟨y2, rfl⟩
      · refine Run.pure hK (seg := [(2, .iload_n 1, 1), (3, .aload_n 0, 1)]) (by decide +kernel) (pc' := 4) (L' := #[.val (.ref x), .val (.int (Int32.ofNat i)), .unset]) (S' := [(.ref x), (.int (Int32.ofNat i))]) rfl ?_
        refine Run.virtual hK (index := 7) (y := (⟨"java/lang/String", "length", "()I"⟩ : MethodName)) (z := (⟨"java/lang/String", "length", "()I"⟩ : MethodName)) (C := "java/lang/String") (Wt := 1) (kc := 0) (ks := 0) (hw _ (List.mem_of_getElem? (i := 51) rfl)) (hw _ (List.mem_of_getElem? (i := 52) rfl)) (nfS (hw _ (List.mem_of_getElem? (i := 54) rfl))) (hw _ (List.mem_of_getElem? (i := 54) rfl)) (hw _ (List.mem_of_getElem? (i := 53) rfl)) (by decide) (a := x) F.1 (fun _ q => q) (cal_len (g_lenW hw) (hw _ (List.mem_of_getElem? (i := 19) rfl)) F O2 P5 (by decide) (by decide)) rfl (argsL := []) (rest := [(.int (Int32.ofNat i))]) (lenOf pd_len rfl) rfl (Nat.le_of_ble_eq_true rfl) (by decide +kernel) (by decide) (by decide) (fun v1 h1 q1 n1 => ?_)
        obtain ⟨rfl, rfl⟩ := q1
        refine Run.icmp hK (cd := .ge) (o := 58) (by decide +kernel) (by decide) (pc' := 65) rfl (fun q => by replace q := (h_ge _ _).1 q; exact absurd ((ofN_lt2 (by omega) (by omega)).mpr hlt) q) (fun _ => ?_)
        refine Run.pure hK (seg := [(10, .aload_n 0, 1), (11, .iload_n 1, 1)]) (by decide +kernel) (pc' := 12) (L' := #[.val (.ref x), .val (.int (Int32.ofNat i)), .unset]) (S' := [(.int (Int32.ofNat i)), (.ref x)]) rfl ?_
        refine Run.virtual hK (index := 13) (y := (⟨"java/lang/String", "charAt", "(I)C"⟩ : MethodName)) (z := (⟨"java/lang/String", "charAt", "(I)C"⟩ : MethodName)) (C := "java/lang/String") (Wt := 0) (kc := 0) (ks := 0) (hw _ (List.mem_of_getElem? (i := 61) rfl)) (hw _ (List.mem_of_getElem? (i := 62) rfl)) (nfS (hw _ (List.mem_of_getElem? (i := 64) rfl))) (hw _ (List.mem_of_getElem? (i := 64) rfl)) (hw _ (List.mem_of_getElem? (i := 63) rfl)) (by decide) (a := x) F.1 (fun _ q => q) (cal_chr (g_chN hw) (hw _ (List.mem_of_getElem? (i := 19) rfl)) F O2 P5 O4.1 O4.2 hlt rfl (by decide) (by decide)) rfl (argsL := [(.int (Int32.ofNat i))]) (rest := []) (lenOf pd_ch rfl) rfl (Nat.le_of_ble_eq_true rfl) (by decide +kernel) (by decide) (by decide) (fun v2 h2 q2 n2 => ?_)
        obtain ⟨rfl, rfl⟩ := q2
        rw [← e_d]
        refine Run.pure hK (seg := [(15, .istore_n 2, 1), (16, .iload_n 2, 1), (17, .bipush 32, 2)]) (by decide +kernel) (pc' := 19) (L' := #[.val (.ref x), .val (.int (Int32.ofNat i)), .val (.int d)]) (S' := [(.int (32 : Int32)), (.int d)]) rfl ?_
        refine Run.icmp hK (cd := .le) (o := 16) (by decide +kernel) (by decide) (pc' := 35) rfl (fun q => by replace q := (h_le _ _).1 q; have z1 := hp.1; have z2 := hb.1; rw [Int32.lt_iff_toInt_lt] at z1 q; exact absurd (Int32.toInt_inj.mp (by omega)) z2) (fun _ => ?_)
        refine Run.pure hK (seg := [(22, .iload_n 2, 1), (23, .bipush 126, 2)]) (by decide +kernel) (pc' := 25) (L' := #[.val (.ref x), .val (.int (Int32.ofNat i)), .val (.int d)]) (S' := [(.int (126 : Int32)), (.int d)]) rfl ?_
        refine Run.icmp hK (cd := .gt) (o := 10) (by decide +kernel) (by decide) (pc' := 35) rfl (fun q => by replace q := (h_gt _ _).1 q; exact absurd q hp.2) (fun _ => ?_)
        refine Run.pure hK (seg := [(28, .iload_n 2, 1)]) (by decide +kernel) (pc' := 29) (L' := #[.val (.ref x), .val (.int (Int32.ofNat i)), .val (.int d)]) (S' := [(.int d)]) rfl ?_
        refine Run.static hK (index := 43) (y := (⟨"com/example/libidem/libidem/http/KeyHeader", "isEscaped", "(C)Z"⟩ : MethodName)) (Wt := 0) (kc := 0) (ks := 0) (hw _ (List.mem_of_getElem? (i := 218) rfl)) (hw _ (List.mem_of_getElem? (i := 219) rfl)) (hw _ (List.mem_of_getElem? (i := 49) rfl)) (hw _ (List.mem_of_getElem? (i := 220) rfl)) (by decide) (W' := []) (fun _ q => nomatch q) (Ctr.cal (c_ise G d h2) (hw _ (List.mem_of_getElem? (i := 220) rfl)) (hw _ (List.mem_of_getElem? (i := 49) rfl)) (by decide) (by decide)) rfl (argsL := [(.int d)]) (rest := []) (lenOf pd_cz rfl) rfl (Nat.le_of_ble_eq_true rfl) (by decide +kernel) (by decide) (by decide) (fun v3 h3 q3 n3 => ?_)
        obtain ⟨rfl, r, rfl, hr⟩ := q3
        obtain rfl : r = 0 := by rcases hr with ⟨h1, h2⟩ | ⟨h1, -⟩; (exact absurd h2 (fun z => z.elim hb.2.1 hb.2.2)); exact h1
        refine Run.ifz hK (cd := .eq) (o := 27) (by decide +kernel) (by decide) (pc' := 59) rfl (fun _ => ?_) (fun q => by replace q := (h_eq _ _).2 q; exact absurd rfl q)
        refine Run.pure hK (seg := [(59, .iinc 1 1, 3), (62, .goto (-60), 3)]) (by decide +kernel) (pc' := 2) (L' := #[.val (.ref x), .val (.int ((Int32.ofNat i) + (1 : Int32))), .val (.int d)]) (S' := []) rfl ?_
        rw [show Int32.ofNat i + (1 : Int32) = Int32.ofNat (i + 1) from ofN_add (n := i) (m := 1) (by omega)]
        exact ih (i + 1) _ (by omega) (by omega) (Or.inr ⟨_, rfl⟩)
      · refine Run.pure hK (seg := [(2, .iload_n 1, 1), (3, .aload_n 0, 1)]) (by decide +kernel) (pc' := 4) (L' := #[.val (.ref x), .val (.int (Int32.ofNat i)), .val (.int y2)]) (S' := [(.ref x), (.int (Int32.ofNat i))]) rfl ?_
        refine Run.virtual hK (index := 7) (y := (⟨"java/lang/String", "length", "()I"⟩ : MethodName)) (z := (⟨"java/lang/String", "length", "()I"⟩ : MethodName)) (C := "java/lang/String") (Wt := 1) (kc := 0) (ks := 0) (hw _ (List.mem_of_getElem? (i := 51) rfl)) (hw _ (List.mem_of_getElem? (i := 52) rfl)) (nfS (hw _ (List.mem_of_getElem? (i := 54) rfl))) (hw _ (List.mem_of_getElem? (i := 54) rfl)) (hw _ (List.mem_of_getElem? (i := 53) rfl)) (by decide) (a := x) F.1 (fun _ q => q) (cal_len (g_lenW hw) (hw _ (List.mem_of_getElem? (i := 19) rfl)) F O2 P5 (by decide) (by decide)) rfl (argsL := []) (rest := [(.int (Int32.ofNat i))]) (lenOf pd_len rfl) rfl (Nat.le_of_ble_eq_true rfl) (by decide +kernel) (by decide) (by decide) (fun v1 h1 q1 n1 => ?_)
        obtain ⟨rfl, rfl⟩ := q1
        refine Run.icmp hK (cd := .ge) (o := 58) (by decide +kernel) (by decide) (pc' := 65) rfl (fun q => by replace q := (h_ge _ _).1 q; exact absurd ((ofN_lt2 (by omega) (by omega)).mpr hlt) q) (fun _ => ?_)
        refine Run.pure hK (seg := [(10, .aload_n 0, 1), (11, .iload_n 1, 1)]) (by decide +kernel) (pc' := 12) (L' := #[.val (.ref x), .val (.int (Int32.ofNat i)), .val (.int y2)]) (S' := [(.int (Int32.ofNat i)), (.ref x)]) rfl ?_
        refine Run.virtual hK (index := 13) (y := (⟨"java/lang/String", "charAt", "(I)C"⟩ : MethodName)) (z := (⟨"java/lang/String", "charAt", "(I)C"⟩ : MethodName)) (C := "java/lang/String") (Wt := 0) (kc := 0) (ks := 0) (hw _ (List.mem_of_getElem? (i := 61) rfl)) (hw _ (List.mem_of_getElem? (i := 62) rfl)) (nfS (hw _ (List.mem_of_getElem? (i := 64) rfl))) (hw _ (List.mem_of_getElem? (i := 64) rfl)) (hw _ (List.mem_of_getElem? (i := 63) rfl)) (by decide) (a := x) F.1 (fun _ q => q) (cal_chr (g_chN hw) (hw _ (List.mem_of_getElem? (i := 19) rfl)) F O2 P5 O4.1 O4.2 hlt rfl (by decide) (by decide)) rfl (argsL := [(.int (Int32.ofNat i))]) (rest := []) (lenOf pd_ch rfl) rfl (Nat.le_of_ble_eq_true rfl) (by decide +kernel) (by decide) (by decide) (fun v2 h2 q2 n2 => ?_)
        obtain ⟨rfl, rfl⟩ := q2
        rw [← e_d]
        refine Run.pure hK (seg := [(15, .istore_n 2, 1), (16, .iload_n 2, 1), (17, .bipush 32, 2)]) (by decide +kernel) (pc' := 19) (L' := #[.val (.ref x), .val (.int (Int32.ofNat i)), .val (.int d)]) (S' := [(.int (32 : Int32)), (.int d)]) rfl ?_
        refine Run.icmp hK (cd := .le) (o := 16) (by decide +kernel) (by decide) (pc' := 35) rfl (fun q => by replace q := (h_le _ _).1 q; have z1 := hp.1; have z2 := hb.1; rw [Int32.lt_iff_toInt_lt] at z1 q; exact absurd (Int32.toInt_inj.mp (by omega)) z2) (fun _ => ?_)
        refine Run.pure hK (seg := [(22, .iload_n 2, 1), (23, .bipush 126, 2)]) (by decide +kernel) (pc' := 25) (L' := #[.val (.ref x), .val (.int (Int32.ofNat i)), .val (.int d)]) (S' := [(.int (126 : Int32)), (.int d)]) rfl ?_
        refine Run.icmp hK (cd := .gt) (o := 10) (by decide +kernel) (by decide) (pc' := 35) rfl (fun q => by replace q := (h_gt _ _).1 q; exact absurd q hp.2) (fun _ => ?_)
        refine Run.pure hK (seg := [(28, .iload_n 2, 1)]) (by decide +kernel) (pc' := 29) (L' := #[.val (.ref x), .val (.int (Int32.ofNat i)), .val (.int d)]) (S' := [(.int d)]) rfl ?_
        refine Run.static hK (index := 43) (y := (⟨"com/example/libidem/libidem/http/KeyHeader", "isEscaped", "(C)Z"⟩ : MethodName)) (Wt := 0) (kc := 0) (ks := 0) (hw _ (List.mem_of_getElem? (i := 218) rfl)) (hw _ (List.mem_of_getElem? (i := 219) rfl)) (hw _ (List.mem_of_getElem? (i := 49) rfl)) (hw _ (List.mem_of_getElem? (i := 220) rfl)) (by decide) (W' := []) (fun _ q => nomatch q) (Ctr.cal (c_ise G d h2) (hw _ (List.mem_of_getElem? (i := 220) rfl)) (hw _ (List.mem_of_getElem? (i := 49) rfl)) (by decide) (by decide)) rfl (argsL := [(.int d)]) (rest := []) (lenOf pd_cz rfl) rfl (Nat.le_of_ble_eq_true rfl) (by decide +kernel) (by decide) (by decide) (fun v3 h3 q3 n3 => ?_)
        obtain ⟨rfl, r, rfl, hr⟩ := q3
        obtain rfl : r = 0 := by rcases hr with ⟨h1, h2⟩ | ⟨h1, -⟩; (exact absurd h2 (fun z => z.elim hb.2.1 hb.2.2)); exact h1
        refine Run.ifz hK (cd := .eq) (o := 27) (by decide +kernel) (by decide) (pc' := 59) rfl (fun _ => ?_) (fun q => by replace q := (h_eq _ _).2 q; exact absurd rfl q)
        refine Run.pure hK (seg := [(59, .iinc 1 1, 3), (62, .goto (-60), 3)]) (by decide +kernel) (pc' := 2) (L' := #[.val (.ref x), .val (.int ((Int32.ofNat i) + (1 : Int32))), .val (.int d)]) (S' := []) rfl ?_
        rw [show Int32.ofNat i + (1 : Int32) = Int32.ofNat (i + 1) from ofN_add (n := i) (m := 1) (by omega)]
        exact ih (i + 1) _ (by omega) (by omega) (Or.inr ⟨_, rfl⟩)
  exact loop ks.length 0 _ (by omega) (by omega) (Or.inl rfl)
set_option maxRecDepth 65536 in
set_option maxHeartbeats 40000000 in
theorem c_unq {l : Launch} {Z : State} {a0 : Array Value} {z0 : Int32} {fm : Value} (G : Env1 Z a0 z0 fm) (x : Addr) {ks : List Int32} (h : Heap) (F : Str Z h x (body 1 ks)) (hk : ∀ c ∈ ks, prt c) (hk3 : ks.length ≤ 3) : Ctr Z consts_1 false l [] (⟨"com/example/libidem/libidem/http/KeyHeader", "unquoted", "(Ljava/lang/String;)Ljava/lang/String;"⟩ : MethodName) prog_26_method_3_code 4 (some (.object "java/lang/String")) ({ frames := 6, cells := 4, slots := 40, locals := 130 } : Room) #[(.ref x)] h [] (fun v h' => ∃ a, v = some (.ref a) ∧ Str Z h' a ks ∧ Ext h h') := by
  obtain ⟨hw, hEL, O2, P5, O4⟩ := id G
  refine Ctr.of_run (a0 := a0) (L0 := #[.val (.ref x), .unset, .unset, .unset]) (plainFor_of_name pn_kh) hEL (by first | (simp [argsToLocals, Value.category, maxLocals]; done) | rfl) (fun K hK => ?_)
  refine Run.old (fun hO => ?_)
  have hl := F.2.2.2.2
  have bl_ := q_len ks
  refine Run.new hK (index := 40) (C := "java/lang/StringBuilder") (n := 4) (hw _ (List.mem_of_getElem? (i := 143) rfl)) (hw _ (List.mem_of_getElem? (i := 144) rfl)) (hw _ (List.mem_of_getElem? (i := 145) rfl)) (by decide +kernel) (by decide) (by decide) (fun hb Eb Xb Db => ?_)
  obtain ⟨ab, zb⟩ : ∃ z, z = h.size := ⟨_, rfl⟩
  rw [← zb]
  rw [← zb] at Xb Db
  refine Run.pure hK (seg := [(3, .dup, 1)]) (by decide +kernel) (pc' := 4) (L' := #[.val (.ref x), .unset, .unset, .unset]) (S' := [(.ref ab), (.ref ab)]) rfl ?_
  have Bv := Db (Or.inl (hw _ (List.mem_of_getElem? (i := 158) rfl))) (ty := .array .byte) (by decide)
  have Bc := Db (Or.inl (hw _ (List.mem_of_getElem? (i := 160) rfl))) (ty := .byte) (by decide)
  have Bn := Db (Or.inl (hw _ (List.mem_of_getElem? (i := 172) rfl))) (ty := .int) (by decide)
  have gb : h.size ≤ ab := by rw [zb]; exact Nat.le_refl _
  refine Run.specialF hK (index := 42) (y := (⟨"java/lang/StringBuilder", "<init>", "()V"⟩ : MethodName)) (Wt := 1) (kc := 1) (ks := 16) rfl (hw _ (List.mem_of_getElem? (i := 146) rfl)) (hw _ (List.mem_of_getElem? (i := 147) rfl)) (hw _ (List.mem_of_getElem? (i := 148) rfl)) (by decide) (a := ab) (W' := []) (fun _ q => nomatch q) (Ctr.cal (c_sbi G ab hb (Nat.le_trans hO.1 gb) Xb ⟨Bv, Bc, Bn⟩) (hw _ (List.mem_of_getElem? (i := 148) rfl)) (hw _ (List.mem_of_getElem? (i := 145) rfl)) (by decide) (by decide)) rfl (argsL := []) (rest := [(.ref ab)]) (lenOf pd_v rfl) rfl (Nat.le_of_ble_eq_true rfl) (by decide +kernel) (by decide) (by decide) (fun _ _ q => by obtain ⟨-, va, k, -, -, -, q⟩ := q; exact ⟨[ab], q, fun x hx => by cases List.mem_singleton.mp hx; exact sfE Xb (by decide) (by decide)⟩) (fun v1 h1 q1 n1 => ?_)
  obtain ⟨rfl, va, k, S1, g1, g2, K1⟩ := q1
  refine ⟨[va], (fun x hx => by cases List.mem_singleton.mp hx; exact ⟨g1, g2⟩), ?_⟩
  have U1 := ext_keep Eb K1 (fun x hx => by cases List.mem_singleton.mp hx; exact gb)
  have gv : h.size ≤ va := Nat.le_trans Eb.1 g1
  have kp : ∀ x ∈ [ab, va], h.size ≤ x := fun x hx => by simp only [List.mem_cons, List.not_mem_nil, or_false] at hx; rcases hx with rfl | rfl; exact gb; exact gv
  refine Run.less (W' := [va]) ?_ (fun x q => by cases List.mem_singleton.mp q; simp)
  refine Run.pure hK (seg := [(7, .astore_n 1, 1), (8, .iconst 1, 1), (9, .istore_n 2, 1)]) (by decide +kernel) (pc' := 10) (L' := #[.val (.ref x), .val (.ref ab), .val (.int (1 : Int32)), .unset]) (S' := []) rfl ?_
  have loop : ∀ (rest done : List Int32) (hT : Heap) (o3 : Slot), (o3 = .unset ∨ ∃ y3 : Int32, o3 = .val (.int y3)) → ks = done ++ rest → Ext h hT → SBo Z hT ab va k 16 done → Run Z consts_1 false K (fun v h' => ∃ a, v = some (.ref a) ∧ Str Z h' a ks ∧ Ext h h') [va] hT 2 20 10 #[.val (.ref x), .val (.ref ab), .val (.int (Int32.ofNat (1 + (enc 1 done).length))), o3] [] := by
    intro rest
    induction rest with
    | nil =>
      intro done hT o3 ho hks E Sb
      rw [List.append_nil] at hks
      subst hks
      have FT := F.ext E
      have c0 := q_at ks [] 0
      rw [List.append_nil] at c0
      have c0' : (body 1 ks).getD (1 + (enc 1 ks).length) 0 = 34 := c0
      refine Run.pure hK (seg := [(10, .iload_n 2, 1), (11, .aload_n 0, 1)]) (by decide +kernel) (pc' := 12) (L' := #[.val (.ref x), .val (.ref ab), .val (.int (Int32.ofNat (1 + (enc 1 ks).length))), o3]) (S' := [(.ref x), (.int (Int32.ofNat (1 + (enc 1 ks).length)))]) rfl ?_
      refine Run.virtual hK (index := 7) (y := (⟨"java/lang/String", "length", "()I"⟩ : MethodName)) (z := (⟨"java/lang/String", "length", "()I"⟩ : MethodName)) (C := "java/lang/String") (Wt := 1) (kc := 0) (ks := 0) (hw _ (List.mem_of_getElem? (i := 51) rfl)) (hw _ (List.mem_of_getElem? (i := 52) rfl)) (nfS (hw _ (List.mem_of_getElem? (i := 54) rfl))) (hw _ (List.mem_of_getElem? (i := 54) rfl)) (hw _ (List.mem_of_getElem? (i := 53) rfl)) (by decide) (a := x) FT.1 (fun _ q => q) (cal_len (g_lenW hw) (hw _ (List.mem_of_getElem? (i := 19) rfl)) FT O2 P5 (by decide) (by decide)) rfl (argsL := []) (rest := [(.int (Int32.ofNat (1 + (enc 1 ks).length)))]) (lenOf pd_len rfl) rfl (Nat.le_of_ble_eq_true rfl) (by decide +kernel) (by decide) (by decide) (fun v1 h1 q1 n1 => ?_)
      obtain ⟨rfl, rfl⟩ := q1
      refine Run.icmp hK (cd := .ge) (o := 114) (by decide +kernel) (by decide) (pc' := 129) rfl (fun q => by replace q := (h_ge _ _).1 q; exact absurd ((ofN_lt2 (by omega) (by omega)).mpr (by omega)) q) (fun _ => ?_)
      refine Run.pure hK (seg := [(18, .aload_n 0, 1), (19, .iload_n 2, 1)]) (by decide +kernel) (pc' := 20) (L' := #[.val (.ref x), .val (.ref ab), .val (.int (Int32.ofNat (1 + (enc 1 ks).length))), o3]) (S' := [(.int (Int32.ofNat (1 + (enc 1 ks).length))), (.ref x)]) rfl ?_
      refine Run.virtual hK (index := 13) (y := (⟨"java/lang/String", "charAt", "(I)C"⟩ : MethodName)) (z := (⟨"java/lang/String", "charAt", "(I)C"⟩ : MethodName)) (C := "java/lang/String") (Wt := 0) (kc := 0) (ks := 0) (hw _ (List.mem_of_getElem? (i := 61) rfl)) (hw _ (List.mem_of_getElem? (i := 62) rfl)) (nfS (hw _ (List.mem_of_getElem? (i := 64) rfl))) (hw _ (List.mem_of_getElem? (i := 64) rfl)) (hw _ (List.mem_of_getElem? (i := 63) rfl)) (by decide) (a := x) FT.1 (fun _ q => q) (cal_chr (g_chN hw) (hw _ (List.mem_of_getElem? (i := 19) rfl)) FT O2 P5 O4.1 O4.2 (show 1 + (enc 1 ks).length < (body 1 ks).length by omega) rfl (by decide) (by decide)) rfl (argsL := [(.int (Int32.ofNat (1 + (enc 1 ks).length)))]) (rest := []) (lenOf pd_ch rfl) rfl (Nat.le_of_ble_eq_true rfl) (by decide +kernel) (by decide) (by decide) (fun v2 h2 q2 n2 => ?_)
      obtain ⟨rfl, rfl⟩ := q2
      rw [c0']
      refine Run.pure hK (seg := [(23, .bipush 34, 2)]) (by decide +kernel) (pc' := 25) (L' := #[.val (.ref x), .val (.ref ab), .val (.int (Int32.ofNat (1 + (enc 1 ks).length))), o3]) (S' := [(.int (34 : Int32)), (.int (34 : Int32))]) rfl ?_
      refine Run.icmp hK (cd := .eq) (o := 104) (by decide +kernel) (by decide) (pc' := 129) rfl (fun _ => ?_) (fun q => by replace q := (h_eq _ _).2 q; exact absurd rfl q)
      refine Run.pure hK (seg := [(129, .iload_n 2, 1), (130, .aload_n 0, 1)]) (by decide +kernel) (pc' := 131) (L' := #[.val (.ref x), .val (.ref ab), .val (.int (Int32.ofNat (1 + (enc 1 ks).length))), o3]) (S' := [(.ref x), (.int (Int32.ofNat (1 + (enc 1 ks).length)))]) rfl ?_
      refine Run.virtual hK (index := 7) (y := (⟨"java/lang/String", "length", "()I"⟩ : MethodName)) (z := (⟨"java/lang/String", "length", "()I"⟩ : MethodName)) (C := "java/lang/String") (Wt := 1) (kc := 0) (ks := 0) (hw _ (List.mem_of_getElem? (i := 51) rfl)) (hw _ (List.mem_of_getElem? (i := 52) rfl)) (nfS (hw _ (List.mem_of_getElem? (i := 54) rfl))) (hw _ (List.mem_of_getElem? (i := 54) rfl)) (hw _ (List.mem_of_getElem? (i := 53) rfl)) (by decide) (a := x) FT.1 (fun _ q => q) (cal_len (g_lenW hw) (hw _ (List.mem_of_getElem? (i := 19) rfl)) FT O2 P5 (by decide) (by decide)) rfl (argsL := []) (rest := [(.int (Int32.ofNat (1 + (enc 1 ks).length)))]) (lenOf pd_len rfl) rfl (Nat.le_of_ble_eq_true rfl) (by decide +kernel) (by decide) (by decide) (fun v3 h3 q3 n3 => ?_)
      obtain ⟨rfl, rfl⟩ := q3
      refine Run.pure hK (seg := [(134, .iconst 1, 1), (135, .isub, 1)]) (by decide +kernel) (pc' := 136) (L' := #[.val (.ref x), .val (.ref ab), .val (.int (Int32.ofNat (1 + (enc 1 ks).length))), o3]) (S' := [(.int ((Int32.ofNat (body 1 ks).length) - (1 : Int32))), (.int (Int32.ofNat (1 + (enc 1 ks).length)))]) rfl ?_
      rw [show Int32.ofNat (body 1 ks).length - (1 : Int32) = Int32.ofNat (1 + (enc 1 ks).length) from by have z := ofN_sub (n := (body 1 ks).length) (m := 1) (by omega) (by omega); rw [show (body 1 ks).length - 1 = 1 + (enc 1 ks).length by omega] at z; exact z]
      refine Run.icmp hK (cd := .eq) (o := 13) (by decide +kernel) (by decide) (pc' := 149) rfl (fun _ => ?_) (fun q => by replace q := (h_eq _ _).2 q; exact absurd rfl q)
      refine Run.pure hK (seg := [(149, .aload_n 1, 1)]) (by decide +kernel) (pc' := 150) (L' := #[.val (.ref x), .val (.ref ab), .val (.int (Int32.ofNat (1 + (enc 1 ks).length))), o3]) (S' := [(.ref ab)]) rfl ?_
      refine Run.virtual hK (index := 71) (y := (⟨"java/lang/StringBuilder", "toString", "()Ljava/lang/String;"⟩ : MethodName)) (z := (⟨"java/lang/StringBuilder", "toString", "()Ljava/lang/String;"⟩ : MethodName)) (C := "java/lang/StringBuilder") (Wt := 0) (kc := 2) (ks := 20) (hw _ (List.mem_of_getElem? (i := 186) rfl)) (hw _ (List.mem_of_getElem? (i := 187) rfl)) (nfS (hw _ (List.mem_of_getElem? (i := 189) rfl))) (hw _ (List.mem_of_getElem? (i := 189) rfl)) (hw _ (List.mem_of_getElem? (i := 188) rfl)) (by decide) (a := ab) Sb.1 (W' := []) (fun _ q => nomatch q) (Cal.wk (Ctr.cal (c_ts G ab va h3 Sb (by omega) (by omega)) (hw _ (List.mem_of_getElem? (i := 190) rfl)) (hw _ (List.mem_of_getElem? (i := 145) rfl)) (by decide) (by decide))) rfl (argsL := []) (rest := []) (lenOf pd_ts rfl) rfl (Nat.le_of_ble_eq_true rfl) (by decide +kernel) (by decide) (by decide) (fun v4 h4 q4 n4 => ?_)
      obtain ⟨a4, rfl, F4, E4⟩ := q4
      exact Run.retw hK (i := .areturn) rfl (Or.inr (Or.inr (Or.inr (Or.inr ⟨rfl, rfl, rfl⟩)))) (by decide +kernel) (by decide) (by decide) ⟨a4, rfl, F4, Ext.tr E E4⟩
    | cons d rest ih =>
      intro done hT o3 ho hks E Sb
      have FT := F.ext E
      have hd : prt d := hk d (by rw [hks]; simp)
      have dl : done.length + (rest.length + 1) = ks.length := by rw [hks]; simp
      have el : (enc 1 ks).length = (enc 1 done).length + ((e1 1 d).length + (enc 1 rest).length) := by rw [hks, enc_app]; show (enc 1 done ++ (e1 1 d ++ enc 1 rest)).length = _; simp only [List.length_append]
      have ks2 : ks = (done ++ [d]) ++ rest := by rw [hks]; simp
      have en2 : (enc 1 (done ++ [d])).length = (enc 1 done).length + (e1 1 d).length := by rw [enc_app]; show (enc 1 done ++ (e1 1 d ++ [])).length = _; simp only [List.length_append, List.length_nil]; omega
      have tail : 0 < (e1 1 d).length → Run Z consts_1 false K (fun v h' => ∃ a, v = some (.ref a) ∧ Str Z h' a ks ∧ Ext h h') [va] hT 2 20 117 #[.val (.ref x), .val (.ref ab), .val (.int (Int32.ofNat (1 + (enc 1 done).length + ((e1 1 d).length - 1)))), .val (.int d)] [] := by
        intro e0
        refine Run.pure hK (seg := [(117, .aload_n 1, 1), (118, .iload_n 3, 1)]) (by decide +kernel) (pc' := 119) (L' := #[.val (.ref x), .val (.ref ab), .val (.int (Int32.ofNat (1 + (enc 1 done).length + ((e1 1 d).length - 1)))), .val (.int d)]) (S' := [(.int d), (.ref ab)]) rfl ?_
        refine Run.virtual hK (index := 65) (y := (⟨"java/lang/StringBuilder", "append", "(C)Ljava/lang/StringBuilder;"⟩ : MethodName)) (z := (⟨"java/lang/StringBuilder", "append", "(C)Ljava/lang/StringBuilder;"⟩ : MethodName)) (C := "java/lang/StringBuilder") (Wt := 0) (kc := 0) (ks := 0) (hw _ (List.mem_of_getElem? (i := 161) rfl)) (hw _ (List.mem_of_getElem? (i := 162) rfl)) (nfS (hw _ (List.mem_of_getElem? (i := 164) rfl))) (hw _ (List.mem_of_getElem? (i := 164) rfl)) (hw _ (List.mem_of_getElem? (i := 163) rfl)) (by decide) (a := ab) Sb.1 (fun _ q => q) (Cal.wk (Ctr.cal (c_sac G ab va d hT Sb (prt_in hd) (by omega)) (hw _ (List.mem_of_getElem? (i := 165) rfl)) (hw _ (List.mem_of_getElem? (i := 145) rfl)) (by decide) (by decide))) rfl (argsL := [(.int d)]) (rest := []) (lenOf pd_sac rfl) rfl (Nat.le_of_ble_eq_true rfl) (by decide +kernel) (by decide) (by decide) (fun v5 h5 q5 n5 => ?_)
        obtain ⟨rfl, S5, K5⟩ := q5
        refine Run.pure hK (seg := [(122, .pop, 1), (123, .iinc 2 1, 3), (126, .goto (-116), 3)]) (by decide +kernel) (pc' := 10) (L' := #[.val (.ref x), .val (.ref ab), .val (.int ((Int32.ofNat (1 + (enc 1 done).length + ((e1 1 d).length - 1))) + (1 : Int32))), .val (.int d)]) (S' := []) rfl ?_
        rw [show Int32.ofNat (1 + (enc 1 done).length + ((e1 1 d).length - 1)) + (1 : Int32) = Int32.ofNat (1 + (enc 1 (done ++ [d])).length) from by have z := ofN_add (n := 1 + (enc 1 done).length + ((e1 1 d).length - 1)) (m := 1) (by omega); rw [show 1 + (enc 1 done).length + ((e1 1 d).length - 1) + 1 = 1 + (enc 1 (done ++ [d])).length by omega] at z; exact z]
        exact ih (done ++ [d]) _ _ (Or.inr ⟨_, rfl⟩) ks2 (ext_keep E K5 kp) S5
      rcases ho with rfl | ⟨y3, rfl⟩
      · by_cases es : d = 34 ∨ d = 92
        · have ee := e1_esc es
          have ex : enc 1 (d :: rest) ++ [34] = 92 :: d :: (enc 1 rest ++ [34]) := by show e1 1 d ++ enc 1 rest ++ [34] = _; rw [ee]; rfl
          have c0 := q_at done (d :: rest) 0
          have c1 := q_at done (d :: rest) 1
          rw [← hks, ex] at c0 c1
          have l2 : (e1 1 d).length = 2 := by rw [ee]; rfl
          have c0' : (body 1 ks).getD (1 + (enc 1 done).length) 0 = 92 := c0
          have c1' : (body 1 ks).getD (1 + (enc 1 done).length + 1) 0 = d := c1
          refine Run.pure hK (seg := [(10, .iload_n 2, 1), (11, .aload_n 0, 1)]) (by decide +kernel) (pc' := 12) (L' := #[.val (.ref x), .val (.ref ab), .val (.int (Int32.ofNat (1 + (enc 1 done).length))), .unset]) (S' := [(.ref x), (.int (Int32.ofNat (1 + (enc 1 done).length)))]) rfl ?_
          refine Run.virtual hK (index := 7) (y := (⟨"java/lang/String", "length", "()I"⟩ : MethodName)) (z := (⟨"java/lang/String", "length", "()I"⟩ : MethodName)) (C := "java/lang/String") (Wt := 1) (kc := 0) (ks := 0) (hw _ (List.mem_of_getElem? (i := 51) rfl)) (hw _ (List.mem_of_getElem? (i := 52) rfl)) (nfS (hw _ (List.mem_of_getElem? (i := 54) rfl))) (hw _ (List.mem_of_getElem? (i := 54) rfl)) (hw _ (List.mem_of_getElem? (i := 53) rfl)) (by decide) (a := x) FT.1 (fun _ q => q) (cal_len (g_lenW hw) (hw _ (List.mem_of_getElem? (i := 19) rfl)) FT O2 P5 (by decide) (by decide)) rfl (argsL := []) (rest := [(.int (Int32.ofNat (1 + (enc 1 done).length)))]) (lenOf pd_len rfl) rfl (Nat.le_of_ble_eq_true rfl) (by decide +kernel) (by decide) (by decide) (fun v1 h1 q1 n1 => ?_)
          obtain ⟨rfl, rfl⟩ := q1
          refine Run.icmp hK (cd := .ge) (o := 114) (by decide +kernel) (by decide) (pc' := 129) rfl (fun q => by replace q := (h_ge _ _).1 q; exact absurd ((ofN_lt2 (by omega) (by omega)).mpr (by omega)) q) (fun _ => ?_)
          refine Run.pure hK (seg := [(18, .aload_n 0, 1), (19, .iload_n 2, 1)]) (by decide +kernel) (pc' := 20) (L' := #[.val (.ref x), .val (.ref ab), .val (.int (Int32.ofNat (1 + (enc 1 done).length))), .unset]) (S' := [(.int (Int32.ofNat (1 + (enc 1 done).length))), (.ref x)]) rfl ?_
          refine Run.virtual hK (index := 13) (y := (⟨"java/lang/String", "charAt", "(I)C"⟩ : MethodName)) (z := (⟨"java/lang/String", "charAt", "(I)C"⟩ : MethodName)) (C := "java/lang/String") (Wt := 0) (kc := 0) (ks := 0) (hw _ (List.mem_of_getElem? (i := 61) rfl)) (hw _ (List.mem_of_getElem? (i := 62) rfl)) (nfS (hw _ (List.mem_of_getElem? (i := 64) rfl))) (hw _ (List.mem_of_getElem? (i := 64) rfl)) (hw _ (List.mem_of_getElem? (i := 63) rfl)) (by decide) (a := x) FT.1 (fun _ q => q) (cal_chr (g_chN hw) (hw _ (List.mem_of_getElem? (i := 19) rfl)) FT O2 P5 O4.1 O4.2 (show 1 + (enc 1 done).length < (body 1 ks).length by omega) rfl (by decide) (by decide)) rfl (argsL := [(.int (Int32.ofNat (1 + (enc 1 done).length)))]) (rest := []) (lenOf pd_ch rfl) rfl (Nat.le_of_ble_eq_true rfl) (by decide +kernel) (by decide) (by decide) (fun v2 h2 q2 n2 => ?_)
          obtain ⟨rfl, rfl⟩ := q2
          rw [c0']
          refine Run.pure hK (seg := [(23, .bipush 34, 2)]) (by decide +kernel) (pc' := 25) (L' := #[.val (.ref x), .val (.ref ab), .val (.int (Int32.ofNat (1 + (enc 1 done).length))), .unset]) (S' := [(.int (34 : Int32)), (.int (92 : Int32))]) rfl ?_
          refine Run.icmp hK (cd := .eq) (o := 104) (by decide +kernel) (by decide) (pc' := 129) rfl (fun q => by replace q := (h_eq _ _).1 q; exact absurd q (by decide)) (fun _ => ?_)
          refine Run.pure hK (seg := [(28, .aload_n 0, 1), (29, .iload_n 2, 1)]) (by decide +kernel) (pc' := 30) (L' := #[.val (.ref x), .val (.ref ab), .val (.int (Int32.ofNat (1 + (enc 1 done).length))), .unset]) (S' := [(.int (Int32.ofNat (1 + (enc 1 done).length))), (.ref x)]) rfl ?_
          refine Run.virtual hK (index := 13) (y := (⟨"java/lang/String", "charAt", "(I)C"⟩ : MethodName)) (z := (⟨"java/lang/String", "charAt", "(I)C"⟩ : MethodName)) (C := "java/lang/String") (Wt := 0) (kc := 0) (ks := 0) (hw _ (List.mem_of_getElem? (i := 61) rfl)) (hw _ (List.mem_of_getElem? (i := 62) rfl)) (nfS (hw _ (List.mem_of_getElem? (i := 64) rfl))) (hw _ (List.mem_of_getElem? (i := 64) rfl)) (hw _ (List.mem_of_getElem? (i := 63) rfl)) (by decide) (a := x) FT.1 (fun _ q => q) (cal_chr (g_chN hw) (hw _ (List.mem_of_getElem? (i := 19) rfl)) FT O2 P5 O4.1 O4.2 (show 1 + (enc 1 done).length < (body 1 ks).length by omega) rfl (by decide) (by decide)) rfl (argsL := [(.int (Int32.ofNat (1 + (enc 1 done).length)))]) (rest := []) (lenOf pd_ch rfl) rfl (Nat.le_of_ble_eq_true rfl) (by decide +kernel) (by decide) (by decide) (fun v3 h3 q3 n3 => ?_)
          obtain ⟨rfl, rfl⟩ := q3
          rw [c0']
          refine Run.pure hK (seg := [(33, .istore_n 3, 1), (34, .iload_n 3, 1), (35, .bipush 92, 2)]) (by decide +kernel) (pc' := 37) (L' := #[.val (.ref x), .val (.ref ab), .val (.int (Int32.ofNat (1 + (enc 1 done).length))), .val (.int (92 : Int32))]) (S' := [(.int (92 : Int32)), (.int (92 : Int32))]) rfl ?_
          refine Run.icmp hK (cd := .ne) (o := 44) (by decide +kernel) (by decide) (pc' := 81) rfl (fun q => by replace q := (h_ne _ _).1 q; exact absurd rfl q) (fun _ => ?_)
          refine Run.pure hK (seg := [(40, .iinc 2 1, 3)]) (by decide +kernel) (pc' := 43) (L' := #[.val (.ref x), .val (.ref ab), .val (.int ((Int32.ofNat (1 + (enc 1 done).length)) + (1 : Int32))), .val (.int (92 : Int32))]) (S' := []) rfl ?_
          rw [show Int32.ofNat (1 + (enc 1 done).length) + (1 : Int32) = Int32.ofNat (1 + (enc 1 done).length + 1) from ofN_add (n := 1 + (enc 1 done).length) (m := 1) (by omega)]
          refine Run.pure hK (seg := [(43, .iload_n 2, 1), (44, .aload_n 0, 1)]) (by decide +kernel) (pc' := 45) (L' := #[.val (.ref x), .val (.ref ab), .val (.int (Int32.ofNat (1 + (enc 1 done).length + 1))), .val (.int (92 : Int32))]) (S' := [(.ref x), (.int (Int32.ofNat (1 + (enc 1 done).length + 1)))]) rfl ?_
          refine Run.virtual hK (index := 7) (y := (⟨"java/lang/String", "length", "()I"⟩ : MethodName)) (z := (⟨"java/lang/String", "length", "()I"⟩ : MethodName)) (C := "java/lang/String") (Wt := 1) (kc := 0) (ks := 0) (hw _ (List.mem_of_getElem? (i := 51) rfl)) (hw _ (List.mem_of_getElem? (i := 52) rfl)) (nfS (hw _ (List.mem_of_getElem? (i := 54) rfl))) (hw _ (List.mem_of_getElem? (i := 54) rfl)) (hw _ (List.mem_of_getElem? (i := 53) rfl)) (by decide) (a := x) FT.1 (fun _ q => q) (cal_len (g_lenW hw) (hw _ (List.mem_of_getElem? (i := 19) rfl)) FT O2 P5 (by decide) (by decide)) rfl (argsL := []) (rest := [(.int (Int32.ofNat (1 + (enc 1 done).length + 1)))]) (lenOf pd_len rfl) rfl (Nat.le_of_ble_eq_true rfl) (by decide +kernel) (by decide) (by decide) (fun v4 h4 q4 n4 => ?_)
          obtain ⟨rfl, rfl⟩ := q4
          refine Run.icmp hK (cd := .eq) (o := 14) (by decide +kernel) (by decide) (pc' := 62) rfl (fun q => by replace q := (h_eq _ _).1 q; have z := congrArg Int32.toInt q; rw [ofN (by omega), ofN (by omega)] at z; omega) (fun _ => ?_)
          refine Run.pure hK (seg := [(51, .aload_n 0, 1), (52, .iload_n 2, 1)]) (by decide +kernel) (pc' := 53) (L' := #[.val (.ref x), .val (.ref ab), .val (.int (Int32.ofNat (1 + (enc 1 done).length + 1))), .val (.int (92 : Int32))]) (S' := [(.int (Int32.ofNat (1 + (enc 1 done).length + 1))), (.ref x)]) rfl ?_
          refine Run.virtual hK (index := 13) (y := (⟨"java/lang/String", "charAt", "(I)C"⟩ : MethodName)) (z := (⟨"java/lang/String", "charAt", "(I)C"⟩ : MethodName)) (C := "java/lang/String") (Wt := 0) (kc := 0) (ks := 0) (hw _ (List.mem_of_getElem? (i := 61) rfl)) (hw _ (List.mem_of_getElem? (i := 62) rfl)) (nfS (hw _ (List.mem_of_getElem? (i := 64) rfl))) (hw _ (List.mem_of_getElem? (i := 64) rfl)) (hw _ (List.mem_of_getElem? (i := 63) rfl)) (by decide) (a := x) FT.1 (fun _ q => q) (cal_chr (g_chN hw) (hw _ (List.mem_of_getElem? (i := 19) rfl)) FT O2 P5 O4.1 O4.2 (show 1 + (enc 1 done).length + 1 < (body 1 ks).length by omega) rfl (by decide) (by decide)) rfl (argsL := [(.int (Int32.ofNat (1 + (enc 1 done).length + 1)))]) (rest := []) (lenOf pd_ch rfl) rfl (Nat.le_of_ble_eq_true rfl) (by decide +kernel) (by decide) (by decide) (fun v6 h6 q6 n6 => ?_)
          obtain ⟨rfl, rfl⟩ := q6
          rw [c1']
          refine Run.static hK (index := 43) (y := (⟨"com/example/libidem/libidem/http/KeyHeader", "isEscaped", "(C)Z"⟩ : MethodName)) (Wt := 0) (kc := 0) (ks := 0) (hw _ (List.mem_of_getElem? (i := 218) rfl)) (hw _ (List.mem_of_getElem? (i := 219) rfl)) (hw _ (List.mem_of_getElem? (i := 49) rfl)) (hw _ (List.mem_of_getElem? (i := 220) rfl)) (by decide) (W' := []) (fun _ q => nomatch q) (Ctr.cal (c_ise G d h6) (hw _ (List.mem_of_getElem? (i := 220) rfl)) (hw _ (List.mem_of_getElem? (i := 49) rfl)) (by decide) (by decide)) rfl (argsL := [(.int d)]) (rest := []) (lenOf pd_cz rfl) rfl (Nat.le_of_ble_eq_true rfl) (by decide +kernel) (by decide) (by decide) (fun v7 h7 q7 n7 => ?_)
          obtain ⟨rfl, r, rfl, hr⟩ := q7
          obtain rfl : r = 1 := by rcases hr with ⟨z1, -⟩ | ⟨-, z2⟩; exact z1; exact absurd es z2
          refine Run.ifz hK (cd := .ne) (o := 13) (by decide +kernel) (by decide) (pc' := 72) rfl (fun _ => ?_) (fun q => by replace q := (h_ne _ _).2 q; exact absurd q (by decide))
          refine Run.pure hK (seg := [(72, .aload_n 0, 1), (73, .iload_n 2, 1)]) (by decide +kernel) (pc' := 74) (L' := #[.val (.ref x), .val (.ref ab), .val (.int (Int32.ofNat (1 + (enc 1 done).length + 1))), .val (.int (92 : Int32))]) (S' := [(.int (Int32.ofNat (1 + (enc 1 done).length + 1))), (.ref x)]) rfl ?_
          refine Run.virtual hK (index := 13) (y := (⟨"java/lang/String", "charAt", "(I)C"⟩ : MethodName)) (z := (⟨"java/lang/String", "charAt", "(I)C"⟩ : MethodName)) (C := "java/lang/String") (Wt := 0) (kc := 0) (ks := 0) (hw _ (List.mem_of_getElem? (i := 61) rfl)) (hw _ (List.mem_of_getElem? (i := 62) rfl)) (nfS (hw _ (List.mem_of_getElem? (i := 64) rfl))) (hw _ (List.mem_of_getElem? (i := 64) rfl)) (hw _ (List.mem_of_getElem? (i := 63) rfl)) (by decide) (a := x) FT.1 (fun _ q => q) (cal_chr (g_chN hw) (hw _ (List.mem_of_getElem? (i := 19) rfl)) FT O2 P5 O4.1 O4.2 (show 1 + (enc 1 done).length + 1 < (body 1 ks).length by omega) rfl (by decide) (by decide)) rfl (argsL := [(.int (Int32.ofNat (1 + (enc 1 done).length + 1)))]) (rest := []) (lenOf pd_ch rfl) rfl (Nat.le_of_ble_eq_true rfl) (by decide +kernel) (by decide) (by decide) (fun v8 h8 q8 n8 => ?_)
          obtain ⟨rfl, rfl⟩ := q8
          rw [c1']
          refine Run.pure hK (seg := [(77, .istore_n 3, 1), (78, .goto 39, 3)]) (by decide +kernel) (pc' := 117) (L' := #[.val (.ref x), .val (.ref ab), .val (.int (Int32.ofNat (1 + (enc 1 done).length + 1))), .val (.int d)]) (S' := []) rfl ?_
          have tl := tail (by omega)
          rw [l2] at tl
          exact tl
        · have ee := e1_not es
          have ex : enc 1 (d :: rest) ++ [34] = d :: (enc 1 rest ++ [34]) := by show e1 1 d ++ enc 1 rest ++ [34] = _; rw [ee]; rfl
          have c0 := q_at done (d :: rest) 0
          rw [← hks, ex] at c0
          have l2 : (e1 1 d).length = 1 := by rw [ee]; rfl
          have c0' : (body 1 ks).getD (1 + (enc 1 done).length) 0 = d := c0
          refine Run.pure hK (seg := [(10, .iload_n 2, 1), (11, .aload_n 0, 1)]) (by decide +kernel) (pc' := 12) (L' := #[.val (.ref x), .val (.ref ab), .val (.int (Int32.ofNat (1 + (enc 1 done).length))), .unset]) (S' := [(.ref x), (.int (Int32.ofNat (1 + (enc 1 done).length)))]) rfl ?_
          refine Run.virtual hK (index := 7) (y := (⟨"java/lang/String", "length", "()I"⟩ : MethodName)) (z := (⟨"java/lang/String", "length", "()I"⟩ : MethodName)) (C := "java/lang/String") (Wt := 1) (kc := 0) (ks := 0) (hw _ (List.mem_of_getElem? (i := 51) rfl)) (hw _ (List.mem_of_getElem? (i := 52) rfl)) (nfS (hw _ (List.mem_of_getElem? (i := 54) rfl))) (hw _ (List.mem_of_getElem? (i := 54) rfl)) (hw _ (List.mem_of_getElem? (i := 53) rfl)) (by decide) (a := x) FT.1 (fun _ q => q) (cal_len (g_lenW hw) (hw _ (List.mem_of_getElem? (i := 19) rfl)) FT O2 P5 (by decide) (by decide)) rfl (argsL := []) (rest := [(.int (Int32.ofNat (1 + (enc 1 done).length)))]) (lenOf pd_len rfl) rfl (Nat.le_of_ble_eq_true rfl) (by decide +kernel) (by decide) (by decide) (fun v1 h1 q1 n1 => ?_)
          obtain ⟨rfl, rfl⟩ := q1
          refine Run.icmp hK (cd := .ge) (o := 114) (by decide +kernel) (by decide) (pc' := 129) rfl (fun q => by replace q := (h_ge _ _).1 q; exact absurd ((ofN_lt2 (by omega) (by omega)).mpr (by omega)) q) (fun _ => ?_)
          refine Run.pure hK (seg := [(18, .aload_n 0, 1), (19, .iload_n 2, 1)]) (by decide +kernel) (pc' := 20) (L' := #[.val (.ref x), .val (.ref ab), .val (.int (Int32.ofNat (1 + (enc 1 done).length))), .unset]) (S' := [(.int (Int32.ofNat (1 + (enc 1 done).length))), (.ref x)]) rfl ?_
          refine Run.virtual hK (index := 13) (y := (⟨"java/lang/String", "charAt", "(I)C"⟩ : MethodName)) (z := (⟨"java/lang/String", "charAt", "(I)C"⟩ : MethodName)) (C := "java/lang/String") (Wt := 0) (kc := 0) (ks := 0) (hw _ (List.mem_of_getElem? (i := 61) rfl)) (hw _ (List.mem_of_getElem? (i := 62) rfl)) (nfS (hw _ (List.mem_of_getElem? (i := 64) rfl))) (hw _ (List.mem_of_getElem? (i := 64) rfl)) (hw _ (List.mem_of_getElem? (i := 63) rfl)) (by decide) (a := x) FT.1 (fun _ q => q) (cal_chr (g_chN hw) (hw _ (List.mem_of_getElem? (i := 19) rfl)) FT O2 P5 O4.1 O4.2 (show 1 + (enc 1 done).length < (body 1 ks).length by omega) rfl (by decide) (by decide)) rfl (argsL := [(.int (Int32.ofNat (1 + (enc 1 done).length)))]) (rest := []) (lenOf pd_ch rfl) rfl (Nat.le_of_ble_eq_true rfl) (by decide +kernel) (by decide) (by decide) (fun v2 h2 q2 n2 => ?_)
          obtain ⟨rfl, rfl⟩ := q2
          rw [c0']
          refine Run.pure hK (seg := [(23, .bipush 34, 2)]) (by decide +kernel) (pc' := 25) (L' := #[.val (.ref x), .val (.ref ab), .val (.int (Int32.ofNat (1 + (enc 1 done).length))), .unset]) (S' := [(.int (34 : Int32)), (.int d)]) rfl ?_
          refine Run.icmp hK (cd := .eq) (o := 104) (by decide +kernel) (by decide) (pc' := 129) rfl (fun q => by replace q := (h_eq _ _).1 q; exact absurd (Or.inl q) es) (fun _ => ?_)
          refine Run.pure hK (seg := [(28, .aload_n 0, 1), (29, .iload_n 2, 1)]) (by decide +kernel) (pc' := 30) (L' := #[.val (.ref x), .val (.ref ab), .val (.int (Int32.ofNat (1 + (enc 1 done).length))), .unset]) (S' := [(.int (Int32.ofNat (1 + (enc 1 done).length))), (.ref x)]) rfl ?_
          refine Run.virtual hK (index := 13) (y := (⟨"java/lang/String", "charAt", "(I)C"⟩ : MethodName)) (z := (⟨"java/lang/String", "charAt", "(I)C"⟩ : MethodName)) (C := "java/lang/String") (Wt := 0) (kc := 0) (ks := 0) (hw _ (List.mem_of_getElem? (i := 61) rfl)) (hw _ (List.mem_of_getElem? (i := 62) rfl)) (nfS (hw _ (List.mem_of_getElem? (i := 64) rfl))) (hw _ (List.mem_of_getElem? (i := 64) rfl)) (hw _ (List.mem_of_getElem? (i := 63) rfl)) (by decide) (a := x) FT.1 (fun _ q => q) (cal_chr (g_chN hw) (hw _ (List.mem_of_getElem? (i := 19) rfl)) FT O2 P5 O4.1 O4.2 (show 1 + (enc 1 done).length < (body 1 ks).length by omega) rfl (by decide) (by decide)) rfl (argsL := [(.int (Int32.ofNat (1 + (enc 1 done).length)))]) (rest := []) (lenOf pd_ch rfl) rfl (Nat.le_of_ble_eq_true rfl) (by decide +kernel) (by decide) (by decide) (fun v3 h3 q3 n3 => ?_)
          obtain ⟨rfl, rfl⟩ := q3
          rw [c0']
          refine Run.pure hK (seg := [(33, .istore_n 3, 1), (34, .iload_n 3, 1), (35, .bipush 92, 2)]) (by decide +kernel) (pc' := 37) (L' := #[.val (.ref x), .val (.ref ab), .val (.int (Int32.ofNat (1 + (enc 1 done).length))), .val (.int d)]) (S' := [(.int (92 : Int32)), (.int d)]) rfl ?_
          refine Run.icmp hK (cd := .ne) (o := 44) (by decide +kernel) (by decide) (pc' := 81) rfl (fun _ => ?_) (fun q => by replace q := (h_ne _ _).2 q; exact absurd (Or.inr q) es)
          refine Run.pure hK (seg := [(81, .iload_n 3, 1), (82, .bipush 32, 2)]) (by decide +kernel) (pc' := 84) (L' := #[.val (.ref x), .val (.ref ab), .val (.int (Int32.ofNat (1 + (enc 1 done).length))), .val (.int d)]) (S' := [(.int (32 : Int32)), (.int d)]) rfl ?_
          refine Run.icmp hK (cd := .lt) (o := 9) (by decide +kernel) (by decide) (pc' := 93) rfl (fun q => by replace q := (h_lt _ _).1 q; exact absurd q hd.1) (fun _ => ?_)
          refine Run.pure hK (seg := [(87, .iload_n 3, 1), (88, .bipush 126, 2)]) (by decide +kernel) (pc' := 90) (L' := #[.val (.ref x), .val (.ref ab), .val (.int (Int32.ofNat (1 + (enc 1 done).length))), .val (.int d)]) (S' := [(.int (126 : Int32)), (.int d)]) rfl ?_
          refine Run.icmp hK (cd := .le) (o := 27) (by decide +kernel) (by decide) (pc' := 117) rfl (fun _ => ?_) (fun q => by replace q := (h_le _ _).2 q; exact absurd q hd.2)
          have tl := tail (by omega)
          rw [l2] at tl
          exact tl
      · by_cases es : d = 34 ∨ d = 92
        · have ee := e1_esc es
          have ex : enc 1 (d :: rest) ++ [34] = 92 :: d :: (enc 1 rest ++ [34]) := by show e1 1 d ++ enc 1 rest ++ [34] = _; rw [ee]; rfl
          have c0 := q_at done (d :: rest) 0
          have c1 := q_at done (d :: rest) 1
          rw [← hks, ex] at c0 c1
          have l2 : (e1 1 d).length = 2 := by rw [ee]; rfl
          have c0' : (body 1 ks).getD (1 + (enc 1 done).length) 0 = 92 := c0
          have c1' : (body 1 ks).getD (1 + (enc 1 done).length + 1) 0 = d := c1
          refine Run.pure hK (seg := [(10, .iload_n 2, 1), (11, .aload_n 0, 1)]) (by decide +kernel) (pc' := 12) (L' := #[.val (.ref x), .val (.ref ab), .val (.int (Int32.ofNat (1 + (enc 1 done).length))), .val (.int y3)]) (S' := [(.ref x), (.int (Int32.ofNat (1 + (enc 1 done).length)))]) rfl ?_
          refine Run.virtual hK (index := 7) (y := (⟨"java/lang/String", "length", "()I"⟩ : MethodName)) (z := (⟨"java/lang/String", "length", "()I"⟩ : MethodName)) (C := "java/lang/String") (Wt := 1) (kc := 0) (ks := 0) (hw _ (List.mem_of_getElem? (i := 51) rfl)) (hw _ (List.mem_of_getElem? (i := 52) rfl)) (nfS (hw _ (List.mem_of_getElem? (i := 54) rfl))) (hw _ (List.mem_of_getElem? (i := 54) rfl)) (hw _ (List.mem_of_getElem? (i := 53) rfl)) (by decide) (a := x) FT.1 (fun _ q => q) (cal_len (g_lenW hw) (hw _ (List.mem_of_getElem? (i := 19) rfl)) FT O2 P5 (by decide) (by decide)) rfl (argsL := []) (rest := [(.int (Int32.ofNat (1 + (enc 1 done).length)))]) (lenOf pd_len rfl) rfl (Nat.le_of_ble_eq_true rfl) (by decide +kernel) (by decide) (by decide) (fun v1 h1 q1 n1 => ?_)
          obtain ⟨rfl, rfl⟩ := q1
          refine Run.icmp hK (cd := .ge) (o := 114) (by decide +kernel) (by decide) (pc' := 129) rfl (fun q => by replace q := (h_ge _ _).1 q; exact absurd ((ofN_lt2 (by omega) (by omega)).mpr (by omega)) q) (fun _ => ?_)
          refine Run.pure hK (seg := [(18, .aload_n 0, 1), (19, .iload_n 2, 1)]) (by decide +kernel) (pc' := 20) (L' := #[.val (.ref x), .val (.ref ab), .val (.int (Int32.ofNat (1 + (enc 1 done).length))), .val (.int y3)]) (S' := [(.int (Int32.ofNat (1 + (enc 1 done).length))), (.ref x)]) rfl ?_
          refine Run.virtual hK (index := 13) (y := (⟨"java/lang/String", "charAt", "(I)C"⟩ : MethodName)) (z := (⟨"java/lang/String", "charAt", "(I)C"⟩ : MethodName)) (C := "java/lang/String") (Wt := 0) (kc := 0) (ks := 0) (hw _ (List.mem_of_getElem? (i := 61) rfl)) (hw _ (List.mem_of_getElem? (i := 62) rfl)) (nfS (hw _ (List.mem_of_getElem? (i := 64) rfl))) (hw _ (List.mem_of_getElem? (i := 64) rfl)) (hw _ (List.mem_of_getElem? (i := 63) rfl)) (by decide) (a := x) FT.1 (fun _ q => q) (cal_chr (g_chN hw) (hw _ (List.mem_of_getElem? (i := 19) rfl)) FT O2 P5 O4.1 O4.2 (show 1 + (enc 1 done).length < (body 1 ks).length by omega) rfl (by decide) (by decide)) rfl (argsL := [(.int (Int32.ofNat (1 + (enc 1 done).length)))]) (rest := []) (lenOf pd_ch rfl) rfl (Nat.le_of_ble_eq_true rfl) (by decide +kernel) (by decide) (by decide) (fun v2 h2 q2 n2 => ?_)
          obtain ⟨rfl, rfl⟩ := q2
          rw [c0']
          refine Run.pure hK (seg := [(23, .bipush 34, 2)]) (by decide +kernel) (pc' := 25) (L' := #[.val (.ref x), .val (.ref ab), .val (.int (Int32.ofNat (1 + (enc 1 done).length))), .val (.int y3)]) (S' := [(.int (34 : Int32)), (.int (92 : Int32))]) rfl ?_
          refine Run.icmp hK (cd := .eq) (o := 104) (by decide +kernel) (by decide) (pc' := 129) rfl (fun q => by replace q := (h_eq _ _).1 q; exact absurd q (by decide)) (fun _ => ?_)
          refine Run.pure hK (seg := [(28, .aload_n 0, 1), (29, .iload_n 2, 1)]) (by decide +kernel) (pc' := 30) (L' := #[.val (.ref x), .val (.ref ab), .val (.int (Int32.ofNat (1 + (enc 1 done).length))), .val (.int y3)]) (S' := [(.int (Int32.ofNat (1 + (enc 1 done).length))), (.ref x)]) rfl ?_
          refine Run.virtual hK (index := 13) (y := (⟨"java/lang/String", "charAt", "(I)C"⟩ : MethodName)) (z := (⟨"java/lang/String", "charAt", "(I)C"⟩ : MethodName)) (C := "java/lang/String") (Wt := 0) (kc := 0) (ks := 0) (hw _ (List.mem_of_getElem? (i := 61) rfl)) (hw _ (List.mem_of_getElem? (i := 62) rfl)) (nfS (hw _ (List.mem_of_getElem? (i := 64) rfl))) (hw _ (List.mem_of_getElem? (i := 64) rfl)) (hw _ (List.mem_of_getElem? (i := 63) rfl)) (by decide) (a := x) FT.1 (fun _ q => q) (cal_chr (g_chN hw) (hw _ (List.mem_of_getElem? (i := 19) rfl)) FT O2 P5 O4.1 O4.2 (show 1 + (enc 1 done).length < (body 1 ks).length by omega) rfl (by decide) (by decide)) rfl (argsL := [(.int (Int32.ofNat (1 + (enc 1 done).length)))]) (rest := []) (lenOf pd_ch rfl) rfl (Nat.le_of_ble_eq_true rfl) (by decide +kernel) (by decide) (by decide) (fun v3 h3 q3 n3 => ?_)
          obtain ⟨rfl, rfl⟩ := q3
          rw [c0']
          refine Run.pure hK (seg := [(33, .istore_n 3, 1), (34, .iload_n 3, 1), (35, .bipush 92, 2)]) (by decide +kernel) (pc' := 37) (L' := #[.val (.ref x), .val (.ref ab), .val (.int (Int32.ofNat (1 + (enc 1 done).length))), .val (.int (92 : Int32))]) (S' := [(.int (92 : Int32)), (.int (92 : Int32))]) rfl ?_
          refine Run.icmp hK (cd := .ne) (o := 44) (by decide +kernel) (by decide) (pc' := 81) rfl (fun q => by replace q := (h_ne _ _).1 q; exact absurd rfl q) (fun _ => ?_)
          refine Run.pure hK (seg := [(40, .iinc 2 1, 3)]) (by decide +kernel) (pc' := 43) (L' := #[.val (.ref x), .val (.ref ab), .val (.int ((Int32.ofNat (1 + (enc 1 done).length)) + (1 : Int32))), .val (.int (92 : Int32))]) (S' := []) rfl ?_
          rw [show Int32.ofNat (1 + (enc 1 done).length) + (1 : Int32) = Int32.ofNat (1 + (enc 1 done).length + 1) from ofN_add (n := 1 + (enc 1 done).length) (m := 1) (by omega)]
          refine Run.pure hK (seg := [(43, .iload_n 2, 1), (44, .aload_n 0, 1)]) (by decide +kernel) (pc' := 45) (L' := #[.val (.ref x), .val (.ref ab), .val (.int (Int32.ofNat (1 + (enc 1 done).length + 1))), .val (.int (92 : Int32))]) (S' := [(.ref x), (.int (Int32.ofNat (1 + (enc 1 done).length + 1)))]) rfl ?_
          refine Run.virtual hK (index := 7) (y := (⟨"java/lang/String", "length", "()I"⟩ : MethodName)) (z := (⟨"java/lang/String", "length", "()I"⟩ : MethodName)) (C := "java/lang/String") (Wt := 1) (kc := 0) (ks := 0) (hw _ (List.mem_of_getElem? (i := 51) rfl)) (hw _ (List.mem_of_getElem? (i := 52) rfl)) (nfS (hw _ (List.mem_of_getElem? (i := 54) rfl))) (hw _ (List.mem_of_getElem? (i := 54) rfl)) (hw _ (List.mem_of_getElem? (i := 53) rfl)) (by decide) (a := x) FT.1 (fun _ q => q) (cal_len (g_lenW hw) (hw _ (List.mem_of_getElem? (i := 19) rfl)) FT O2 P5 (by decide) (by decide)) rfl (argsL := []) (rest := [(.int (Int32.ofNat (1 + (enc 1 done).length + 1)))]) (lenOf pd_len rfl) rfl (Nat.le_of_ble_eq_true rfl) (by decide +kernel) (by decide) (by decide) (fun v4 h4 q4 n4 => ?_)
          obtain ⟨rfl, rfl⟩ := q4
          refine Run.icmp hK (cd := .eq) (o := 14) (by decide +kernel) (by decide) (pc' := 62) rfl (fun q => by replace q := (h_eq _ _).1 q; have z := congrArg Int32.toInt q; rw [ofN (by omega), ofN (by omega)] at z; omega) (fun _ => ?_)
          refine Run.pure hK (seg := [(51, .aload_n 0, 1), (52, .iload_n 2, 1)]) (by decide +kernel) (pc' := 53) (L' := #[.val (.ref x), .val (.ref ab), .val (.int (Int32.ofNat (1 + (enc 1 done).length + 1))), .val (.int (92 : Int32))]) (S' := [(.int (Int32.ofNat (1 + (enc 1 done).length + 1))), (.ref x)]) rfl ?_
          refine Run.virtual hK (index := 13) (y := (⟨"java/lang/String", "charAt", "(I)C"⟩ : MethodName)) (z := (⟨"java/lang/String", "charAt", "(I)C"⟩ : MethodName)) (C := "java/lang/String") (Wt := 0) (kc := 0) (ks := 0) (hw _ (List.mem_of_getElem? (i := 61) rfl)) (hw _ (List.mem_of_getElem? (i := 62) rfl)) (nfS (hw _ (List.mem_of_getElem? (i := 64) rfl))) (hw _ (List.mem_of_getElem? (i := 64) rfl)) (hw _ (List.mem_of_getElem? (i := 63) rfl)) (by decide) (a := x) FT.1 (fun _ q => q) (cal_chr (g_chN hw) (hw _ (List.mem_of_getElem? (i := 19) rfl)) FT O2 P5 O4.1 O4.2 (show 1 + (enc 1 done).length + 1 < (body 1 ks).length by omega) rfl (by decide) (by decide)) rfl (argsL := [(.int (Int32.ofNat (1 + (enc 1 done).length + 1)))]) (rest := []) (lenOf pd_ch rfl) rfl (Nat.le_of_ble_eq_true rfl) (by decide +kernel) (by decide) (by decide) (fun v6 h6 q6 n6 => ?_)
          obtain ⟨rfl, rfl⟩ := q6
          rw [c1']
          refine Run.static hK (index := 43) (y := (⟨"com/example/libidem/libidem/http/KeyHeader", "isEscaped", "(C)Z"⟩ : MethodName)) (Wt := 0) (kc := 0) (ks := 0) (hw _ (List.mem_of_getElem? (i := 218) rfl)) (hw _ (List.mem_of_getElem? (i := 219) rfl)) (hw _ (List.mem_of_getElem? (i := 49) rfl)) (hw _ (List.mem_of_getElem? (i := 220) rfl)) (by decide) (W' := []) (fun _ q => nomatch q) (Ctr.cal (c_ise G d h6) (hw _ (List.mem_of_getElem? (i := 220) rfl)) (hw _ (List.mem_of_getElem? (i := 49) rfl)) (by decide) (by decide)) rfl (argsL := [(.int d)]) (rest := []) (lenOf pd_cz rfl) rfl (Nat.le_of_ble_eq_true rfl) (by decide +kernel) (by decide) (by decide) (fun v7 h7 q7 n7 => ?_)
          obtain ⟨rfl, r, rfl, hr⟩ := q7
          obtain rfl : r = 1 := by rcases hr with ⟨z1, -⟩ | ⟨-, z2⟩; exact z1; exact absurd es z2
          refine Run.ifz hK (cd := .ne) (o := 13) (by decide +kernel) (by decide) (pc' := 72) rfl (fun _ => ?_) (fun q => by replace q := (h_ne _ _).2 q; exact absurd q (by decide))
          refine Run.pure hK (seg := [(72, .aload_n 0, 1), (73, .iload_n 2, 1)]) (by decide +kernel) (pc' := 74) (L' := #[.val (.ref x), .val (.ref ab), .val (.int (Int32.ofNat (1 + (enc 1 done).length + 1))), .val (.int (92 : Int32))]) (S' := [(.int (Int32.ofNat (1 + (enc 1 done).length + 1))), (.ref x)]) rfl ?_
          refine Run.virtual hK (index := 13) (y := (⟨"java/lang/String", "charAt", "(I)C"⟩ : MethodName)) (z := (⟨"java/lang/String", "charAt", "(I)C"⟩ : MethodName)) (C := "java/lang/String") (Wt := 0) (kc := 0) (ks := 0) (hw _ (List.mem_of_getElem? (i := 61) rfl)) (hw _ (List.mem_of_getElem? (i := 62) rfl)) (nfS (hw _ (List.mem_of_getElem? (i := 64) rfl))) (hw _ (List.mem_of_getElem? (i := 64) rfl)) (hw _ (List.mem_of_getElem? (i := 63) rfl)) (by decide) (a := x) FT.1 (fun _ q => q) (cal_chr (g_chN hw) (hw _ (List.mem_of_getElem? (i := 19) rfl)) FT O2 P5 O4.1 O4.2 (show 1 + (enc 1 done).length + 1 < (body 1 ks).length by omega) rfl (by decide) (by decide)) rfl (argsL := [(.int (Int32.ofNat (1 + (enc 1 done).length + 1)))]) (rest := []) (lenOf pd_ch rfl) rfl (Nat.le_of_ble_eq_true rfl) (by decide +kernel) (by decide) (by decide) (fun v8 h8 q8 n8 => ?_)
          obtain ⟨rfl, rfl⟩ := q8
          rw [c1']
          refine Run.pure hK (seg := [(77, .istore_n 3, 1), (78, .goto 39, 3)]) (by decide +kernel) (pc' := 117) (L' := #[.val (.ref x), .val (.ref ab), .val (.int (Int32.ofNat (1 + (enc 1 done).length + 1))), .val (.int d)]) (S' := []) rfl ?_
          have tl := tail (by omega)
          rw [l2] at tl
          exact tl
        · have ee := e1_not es
          have ex : enc 1 (d :: rest) ++ [34] = d :: (enc 1 rest ++ [34]) := by show e1 1 d ++ enc 1 rest ++ [34] = _; rw [ee]; rfl
          have c0 := q_at done (d :: rest) 0
          rw [← hks, ex] at c0
          have l2 : (e1 1 d).length = 1 := by rw [ee]; rfl
          have c0' : (body 1 ks).getD (1 + (enc 1 done).length) 0 = d := c0
          refine Run.pure hK (seg := [(10, .iload_n 2, 1), (11, .aload_n 0, 1)]) (by decide +kernel) (pc' := 12) (L' := #[.val (.ref x), .val (.ref ab), .val (.int (Int32.ofNat (1 + (enc 1 done).length))), .val (.int y3)]) (S' := [(.ref x), (.int (Int32.ofNat (1 + (enc 1 done).length)))]) rfl ?_
          refine Run.virtual hK (index := 7) (y := (⟨"java/lang/String", "length", "()I"⟩ : MethodName)) (z := (⟨"java/lang/String", "length", "()I"⟩ : MethodName)) (C := "java/lang/String") (Wt := 1) (kc := 0) (ks := 0) (hw _ (List.mem_of_getElem? (i := 51) rfl)) (hw _ (List.mem_of_getElem? (i := 52) rfl)) (nfS (hw _ (List.mem_of_getElem? (i := 54) rfl))) (hw _ (List.mem_of_getElem? (i := 54) rfl)) (hw _ (List.mem_of_getElem? (i := 53) rfl)) (by decide) (a := x) FT.1 (fun _ q => q) (cal_len (g_lenW hw) (hw _ (List.mem_of_getElem? (i := 19) rfl)) FT O2 P5 (by decide) (by decide)) rfl (argsL := []) (rest := [(.int (Int32.ofNat (1 + (enc 1 done).length)))]) (lenOf pd_len rfl) rfl (Nat.le_of_ble_eq_true rfl) (by decide +kernel) (by decide) (by decide) (fun v1 h1 q1 n1 => ?_)
          obtain ⟨rfl, rfl⟩ := q1
          refine Run.icmp hK (cd := .ge) (o := 114) (by decide +kernel) (by decide) (pc' := 129) rfl (fun q => by replace q := (h_ge _ _).1 q; exact absurd ((ofN_lt2 (by omega) (by omega)).mpr (by omega)) q) (fun _ => ?_)
          refine Run.pure hK (seg := [(18, .aload_n 0, 1), (19, .iload_n 2, 1)]) (by decide +kernel) (pc' := 20) (L' := #[.val (.ref x), .val (.ref ab), .val (.int (Int32.ofNat (1 + (enc 1 done).length))), .val (.int y3)]) (S' := [(.int (Int32.ofNat (1 + (enc 1 done).length))), (.ref x)]) rfl ?_
          refine Run.virtual hK (index := 13) (y := (⟨"java/lang/String", "charAt", "(I)C"⟩ : MethodName)) (z := (⟨"java/lang/String", "charAt", "(I)C"⟩ : MethodName)) (C := "java/lang/String") (Wt := 0) (kc := 0) (ks := 0) (hw _ (List.mem_of_getElem? (i := 61) rfl)) (hw _ (List.mem_of_getElem? (i := 62) rfl)) (nfS (hw _ (List.mem_of_getElem? (i := 64) rfl))) (hw _ (List.mem_of_getElem? (i := 64) rfl)) (hw _ (List.mem_of_getElem? (i := 63) rfl)) (by decide) (a := x) FT.1 (fun _ q => q) (cal_chr (g_chN hw) (hw _ (List.mem_of_getElem? (i := 19) rfl)) FT O2 P5 O4.1 O4.2 (show 1 + (enc 1 done).length < (body 1 ks).length by omega) rfl (by decide) (by decide)) rfl (argsL := [(.int (Int32.ofNat (1 + (enc 1 done).length)))]) (rest := []) (lenOf pd_ch rfl) rfl (Nat.le_of_ble_eq_true rfl) (by decide +kernel) (by decide) (by decide) (fun v2 h2 q2 n2 => ?_)
          obtain ⟨rfl, rfl⟩ := q2
          rw [c0']
          refine Run.pure hK (seg := [(23, .bipush 34, 2)]) (by decide +kernel) (pc' := 25) (L' := #[.val (.ref x), .val (.ref ab), .val (.int (Int32.ofNat (1 + (enc 1 done).length))), .val (.int y3)]) (S' := [(.int (34 : Int32)), (.int d)]) rfl ?_
          refine Run.icmp hK (cd := .eq) (o := 104) (by decide +kernel) (by decide) (pc' := 129) rfl (fun q => by replace q := (h_eq _ _).1 q; exact absurd (Or.inl q) es) (fun _ => ?_)
          refine Run.pure hK (seg := [(28, .aload_n 0, 1), (29, .iload_n 2, 1)]) (by decide +kernel) (pc' := 30) (L' := #[.val (.ref x), .val (.ref ab), .val (.int (Int32.ofNat (1 + (enc 1 done).length))), .val (.int y3)]) (S' := [(.int (Int32.ofNat (1 + (enc 1 done).length))), (.ref x)]) rfl ?_
          refine Run.virtual hK (index := 13) (y := (⟨"java/lang/String", "charAt", "(I)C"⟩ : MethodName)) (z := (⟨"java/lang/String", "charAt", "(I)C"⟩ : MethodName)) (C := "java/lang/String") (Wt := 0) (kc := 0) (ks := 0) (hw _ (List.mem_of_getElem? (i := 61) rfl)) (hw _ (List.mem_of_getElem? (i := 62) rfl)) (nfS (hw _ (List.mem_of_getElem? (i := 64) rfl))) (hw _ (List.mem_of_getElem? (i := 64) rfl)) (hw _ (List.mem_of_getElem? (i := 63) rfl)) (by decide) (a := x) FT.1 (fun _ q => q) (cal_chr (g_chN hw) (hw _ (List.mem_of_getElem? (i := 19) rfl)) FT O2 P5 O4.1 O4.2 (show 1 + (enc 1 done).length < (body 1 ks).length by omega) rfl (by decide) (by decide)) rfl (argsL := [(.int (Int32.ofNat (1 + (enc 1 done).length)))]) (rest := []) (lenOf pd_ch rfl) rfl (Nat.le_of_ble_eq_true rfl) (by decide +kernel) (by decide) (by decide) (fun v3 h3 q3 n3 => ?_)
          obtain ⟨rfl, rfl⟩ := q3
          rw [c0']
          refine Run.pure hK (seg := [(33, .istore_n 3, 1), (34, .iload_n 3, 1), (35, .bipush 92, 2)]) (by decide +kernel) (pc' := 37) (L' := #[.val (.ref x), .val (.ref ab), .val (.int (Int32.ofNat (1 + (enc 1 done).length))), .val (.int d)]) (S' := [(.int (92 : Int32)), (.int d)]) rfl ?_
          refine Run.icmp hK (cd := .ne) (o := 44) (by decide +kernel) (by decide) (pc' := 81) rfl (fun _ => ?_) (fun q => by replace q := (h_ne _ _).2 q; exact absurd (Or.inr q) es)
          refine Run.pure hK (seg := [(81, .iload_n 3, 1), (82, .bipush 32, 2)]) (by decide +kernel) (pc' := 84) (L' := #[.val (.ref x), .val (.ref ab), .val (.int (Int32.ofNat (1 + (enc 1 done).length))), .val (.int d)]) (S' := [(.int (32 : Int32)), (.int d)]) rfl ?_
          refine Run.icmp hK (cd := .lt) (o := 9) (by decide +kernel) (by decide) (pc' := 93) rfl (fun q => by replace q := (h_lt _ _).1 q; exact absurd q hd.1) (fun _ => ?_)
          refine Run.pure hK (seg := [(87, .iload_n 3, 1), (88, .bipush 126, 2)]) (by decide +kernel) (pc' := 90) (L' := #[.val (.ref x), .val (.ref ab), .val (.int (Int32.ofNat (1 + (enc 1 done).length))), .val (.int d)]) (S' := [(.int (126 : Int32)), (.int d)]) rfl ?_
          refine Run.icmp hK (cd := .le) (o := 27) (by decide +kernel) (by decide) (pc' := 117) rfl (fun _ => ?_) (fun q => by replace q := (h_le _ _).2 q; exact absurd q hd.2)
          have tl := tail (by omega)
          rw [l2] at tl
          exact tl
  exact loop ks [] _ _ (Or.inl rfl) rfl U1 S1
set_option maxRecDepth 65536 in
set_option maxHeartbeats 40000000 in
theorem c_par {l : Launch} {Z : State} {a0 : Array Value} {z0 : Int32} {fm : Value} (G : Env1 Z a0 z0 fm) (x : Addr) (q : Int32) (lo : Nat) {Bl ks : List Int32} (h : Heap) (F : Str Z h x (Sp Bl lo (body q ks))) (hB : Bl.length = 8) (hbl : ∀ c ∈ Bl, bl c) (hll : lo + (body q ks).length ≤ Bl.length) (hk : ∀ c ∈ ks, prt c) (hk3 : ks.length ≤ 3) (hq : q = 1 ∨ (q = 0 ∧ ∀ c ∈ ks, bok c)) : Ctr Z consts_1 false l [] (⟨"com/example/libidem/libidem/http/KeyHeader", "parse", "(Ljava/lang/String;)Ljava/lang/String;"⟩ : MethodName) prog_26_method_2_code 5 (some (.object "java/lang/String")) ({ frames := 8, cells := 8, slots := 72, locals := 160 } : Room) #[(.ref x)] h [] (fun v h' => ∃ a, v = some (.ref a) ∧ Str Z h' a ks) := by
  obtain ⟨hw, hEL, O2, P5, O4⟩ := id G
  refine Ctr.of_run (a0 := a0) (L0 := #[.val (.ref x), .unset, .unset, .unset, .unset]) (plainFor_of_name pn_kh) hEL (by first | (simp [argsToLocals, Value.category, maxLocals]; done) | rfl) (fun K hK => ?_)
  have wS := g_wS hw
  have hl8 : (Sp Bl lo (body q ks)).length = 8 := by rw [Sp_len hll]; exact hB
  obtain ⟨cs, e_cs⟩ : ∃ z : List Int32, z = (Sp Bl lo (body q ks)) := ⟨_, rfl⟩
  rw [← e_cs] at F hl8
  refine Run.pure hK (seg := [(0, .iconst 0, 1), (1, .istore_n 1, 1), (2, .aload_n 0, 1)]) (by decide +kernel) (pc' := 3) (L' := #[.val (.ref x), .val (.int (0 : Int32)), .unset, .unset, .unset]) (S' := [(.ref x)]) rfl ?_
  refine Run.virtual hK (index := 7) (y := (⟨"java/lang/String", "length", "()I"⟩ : MethodName)) (z := (⟨"java/lang/String", "length", "()I"⟩ : MethodName)) (C := "java/lang/String") (Wt := 0) (kc := 0) (ks := 0) (hw _ (List.mem_of_getElem? (i := 51) rfl)) (hw _ (List.mem_of_getElem? (i := 52) rfl)) (nfS (hw _ (List.mem_of_getElem? (i := 54) rfl))) (hw _ (List.mem_of_getElem? (i := 54) rfl)) (hw _ (List.mem_of_getElem? (i := 53) rfl)) (by decide) (a := x) F.1 (fun _ q => q) (cal_len (g_lenW hw) (hw _ (List.mem_of_getElem? (i := 19) rfl)) F O2 P5 (by decide) (by decide)) rfl (argsL := []) (rest := []) (lenOf pd_len rfl) rfl (Nat.le_of_ble_eq_true rfl) (by decide +kernel) (by decide) (by decide) (fun v1 h1 q1 n1 => ?_)
  obtain ⟨rfl, rfl⟩ := q1
  rw [hl8]
  refine Run.pure hK (seg := [(6, .istore_n 2, 1)]) (by decide +kernel) (pc' := 7) (L' := #[.val (.ref x), .val (.int (0 : Int32)), .val (.int (Int32.ofNat 8)), .unset, .unset]) (S' := []) rfl ?_
  suffices s53 : ∀ (i j : Nat), i ≤ j → j ≤ 8 → (∀ k, k < i → bl (cs.getD k 0)) → (i = 8 ∨ ¬ bl (cs.getD i 0)) → (∀ k, j ≤ k → k < 8 → bl (cs.getD k 0)) → (j = i ∨ ¬ bl (cs.getD (j - 1) 0)) → Run Z consts_1 false K (fun v h' => ∃ a, v = some (.ref a) ∧ Str Z h' a ks) [] h1 0 0 53 #[.val (.ref x), .val (.int (Int32.ofNat i)), .val (.int (Int32.ofNat j)), .unset, .unset] [] by
    have lo2 : ∀ (m i j : Nat), j - i ≤ m → i ≤ j → j ≤ 8 → (∀ k, k < i → bl (cs.getD k 0)) → (i = 8 ∨ ¬ bl (cs.getD i 0)) → (∀ k, j ≤ k → k < 8 → bl (cs.getD k 0)) → Run Z consts_1 false K (fun v h' => ∃ a, v = some (.ref a) ∧ Str Z h' a ks) [] h1 0 0 29 #[.val (.ref x), .val (.int (Int32.ofNat i)), .val (.int (Int32.ofNat j)), .unset, .unset] [] := by
      intro m
      induction m with
      | zero =>
        intro i j hm u1 u2 a1 a2 b1
        by_cases e : i < j
        case neg =>
          refine Run.pure hK (seg := [(29, .iload_n 2, 1), (30, .iload_n 1, 1)]) (by decide +kernel) (pc' := 31) (L' := #[.val (.ref x), .val (.int (Int32.ofNat i)), .val (.int (Int32.ofNat j)), .unset, .unset]) (S' := [(.int (Int32.ofNat i)), (.int (Int32.ofNat j))]) rfl ?_
          refine Run.icmp hK (cd := .le) (o := 22) (by decide +kernel) (by decide) (pc' := 53) rfl (fun _ => ?_) (fun q => by replace q := (h_le _ _).2 q; rw [ofN_lt2 (by omega) (by omega)] at q; omega)
          exact s53 i j u1 u2 a1 a2 b1 (Or.inl (by omega))
        omega
      | succ m ih =>
        intro i j hm u1 u2 a1 a2 b1
        by_cases e : i < j
        case neg =>
          refine Run.pure hK (seg := [(29, .iload_n 2, 1), (30, .iload_n 1, 1)]) (by decide +kernel) (pc' := 31) (L' := #[.val (.ref x), .val (.int (Int32.ofNat i)), .val (.int (Int32.ofNat j)), .unset, .unset]) (S' := [(.int (Int32.ofNat i)), (.int (Int32.ofNat j))]) rfl ?_
          refine Run.icmp hK (cd := .le) (o := 22) (by decide +kernel) (by decide) (pc' := 53) rfl (fun _ => ?_) (fun q => by replace q := (h_le _ _).2 q; rw [ofN_lt2 (by omega) (by omega)] at q; omega)
          exact s53 i j u1 u2 a1 a2 b1 (Or.inl (by omega))
        refine Run.pure hK (seg := [(29, .iload_n 2, 1), (30, .iload_n 1, 1)]) (by decide +kernel) (pc' := 31) (L' := #[.val (.ref x), .val (.int (Int32.ofNat i)), .val (.int (Int32.ofNat j)), .unset, .unset]) (S' := [(.int (Int32.ofNat i)), (.int (Int32.ofNat j))]) rfl ?_
        refine Run.icmp hK (cd := .le) (o := 22) (by decide +kernel) (by decide) (pc' := 53) rfl (fun q => by replace q := (h_le _ _).1 q; exact absurd ((ofN_lt2 (by omega) (by omega)).mpr e) q) (fun _ => ?_)
        refine Run.pure hK (seg := [(34, .aload_n 0, 1), (35, .iload_n 2, 1), (36, .iconst 1, 1), (37, .isub, 1)]) (by decide +kernel) (pc' := 38) (L' := #[.val (.ref x), .val (.int (Int32.ofNat i)), .val (.int (Int32.ofNat j)), .unset, .unset]) (S' := [(.int ((Int32.ofNat j) - (1 : Int32))), (.ref x)]) rfl ?_
        rw [show Int32.ofNat j - (1 : Int32) = Int32.ofNat (j - 1) from by rw [show (1 : Int32) = Int32.ofNat 1 from rfl, ofN_sub (by omega) (by omega)]]
        refine Run.virtual hK (index := 13) (y := (⟨"java/lang/String", "charAt", "(I)C"⟩ : MethodName)) (z := (⟨"java/lang/String", "charAt", "(I)C"⟩ : MethodName)) (C := "java/lang/String") (Wt := 0) (kc := 0) (ks := 0) (hw _ (List.mem_of_getElem? (i := 61) rfl)) (hw _ (List.mem_of_getElem? (i := 62) rfl)) (nfS (hw _ (List.mem_of_getElem? (i := 64) rfl))) (hw _ (List.mem_of_getElem? (i := 64) rfl)) (hw _ (List.mem_of_getElem? (i := 63) rfl)) (by decide) (a := x) F.1 (fun _ q => q) (cal_chr (g_chN hw) (hw _ (List.mem_of_getElem? (i := 19) rfl)) F O2 P5 O4.1 O4.2 (show j - 1 < cs.length by omega) rfl (by decide) (by decide)) rfl (argsL := [(.int (Int32.ofNat (j - 1)))]) (rest := []) (lenOf pd_ch rfl) rfl (Nat.le_of_ble_eq_true rfl) (by decide +kernel) (by decide) (by decide) (fun v2 h2 q2 n2 => ?_)
        obtain ⟨rfl, rfl⟩ := q2
        refine Run.static hK (index := 17) (y := (⟨"com/example/libidem/libidem/http/KeyHeader", "isBlank", "(C)Z"⟩ : MethodName)) (Wt := 0) (kc := 0) (ks := 0) (hw _ (List.mem_of_getElem? (i := 83) rfl)) (hw _ (List.mem_of_getElem? (i := 84) rfl)) (hw _ (List.mem_of_getElem? (i := 49) rfl)) (hw _ (List.mem_of_getElem? (i := 85) rfl)) (by decide) (W' := []) (fun _ q => nomatch q) (Ctr.cal (c_isb G (cs.getD (j - 1) 0) h2) (hw _ (List.mem_of_getElem? (i := 85) rfl)) (hw _ (List.mem_of_getElem? (i := 49) rfl)) (by decide) (by decide)) rfl (argsL := [(.int (cs.getD (j - 1) 0))]) (rest := []) (lenOf pd_cz rfl) rfl (Nat.le_of_ble_eq_true rfl) (by decide +kernel) (by decide) (by decide) (fun v3 h3 q3 n3 => ?_)
        obtain ⟨rfl, r, rfl, hr⟩ := q3
        rcases hr with ⟨rfl, hr⟩ | ⟨rfl, hr⟩
        · refine Run.ifz hK (cd := .eq) (o := 9) (by decide +kernel) (by decide) (pc' := 53) rfl (fun q => by replace q := (h_eq _ _).1 q; exact absurd q (by decide)) (fun _ => ?_)
          refine Run.pure hK (seg := [(47, .iinc 2 (-1), 3), (50, .goto (-21), 3)]) (by decide +kernel) (pc' := 29) (L' := #[.val (.ref x), .val (.int (Int32.ofNat i)), .val (.int ((Int32.ofNat j) + (-1 : Int32))), .unset, .unset]) (S' := []) rfl ?_
          rw [ofN_dec (j := j) (by omega) (by omega)]
          refine ih i (j - 1) (by omega) (by omega) (by omega) a1 a2 (fun k g1 g2 => ?_)
          rcases Nat.lt_or_ge k j with r | r
          · obtain rfl : k = j - 1 := by omega
            exact hr
          · exact b1 k r g2
        · refine Run.ifz hK (cd := .eq) (o := 9) (by decide +kernel) (by decide) (pc' := 53) rfl (fun _ => ?_) (fun q => by replace q := (h_eq _ _).2 q; exact absurd rfl q)
          exact s53 i j u1 u2 a1 a2 b1 (Or.inr hr)
    have lo1 : ∀ (m i : Nat), 8 - i ≤ m → i ≤ 8 → (∀ k, k < i → bl (cs.getD k 0)) → Run Z consts_1 false K (fun v h' => ∃ a, v = some (.ref a) ∧ Str Z h' a ks) [] h1 0 0 7 #[.val (.ref x), .val (.int (Int32.ofNat i)), .val (.int (Int32.ofNat 8)), .unset, .unset] [] := by
      intro m
      induction m with
      | zero =>
        intro i hm u1 a1
        by_cases e : i < 8
        case neg =>
          refine Run.pure hK (seg := [(7, .iload_n 1, 1), (8, .iload_n 2, 1)]) (by decide +kernel) (pc' := 9) (L' := #[.val (.ref x), .val (.int (Int32.ofNat i)), .val (.int (Int32.ofNat 8)), .unset, .unset]) (S' := [(.int (Int32.ofNat 8)), (.int (Int32.ofNat i))]) rfl ?_
          refine Run.icmp hK (cd := .ge) (o := 20) (by decide +kernel) (by decide) (pc' := 29) rfl (fun _ => ?_) (fun q => by replace q := (h_ge _ _).2 q; rw [ofN_lt2 (by omega) (by omega)] at q; omega)
          exact lo2 8 i 8 (by omega) (by omega) (by omega) a1 (Or.inl (by omega)) (fun k g1 g2 => by omega)
        omega
      | succ m ih =>
        intro i hm u1 a1
        by_cases e : i < 8
        case neg =>
          refine Run.pure hK (seg := [(7, .iload_n 1, 1), (8, .iload_n 2, 1)]) (by decide +kernel) (pc' := 9) (L' := #[.val (.ref x), .val (.int (Int32.ofNat i)), .val (.int (Int32.ofNat 8)), .unset, .unset]) (S' := [(.int (Int32.ofNat 8)), (.int (Int32.ofNat i))]) rfl ?_
          refine Run.icmp hK (cd := .ge) (o := 20) (by decide +kernel) (by decide) (pc' := 29) rfl (fun _ => ?_) (fun q => by replace q := (h_ge _ _).2 q; rw [ofN_lt2 (by omega) (by omega)] at q; omega)
          exact lo2 8 i 8 (by omega) (by omega) (by omega) a1 (Or.inl (by omega)) (fun k g1 g2 => by omega)
        refine Run.pure hK (seg := [(7, .iload_n 1, 1), (8, .iload_n 2, 1)]) (by decide +kernel) (pc' := 9) (L' := #[.val (.ref x), .val (.int (Int32.ofNat i)), .val (.int (Int32.ofNat 8)), .unset, .unset]) (S' := [(.int (Int32.ofNat 8)), (.int (Int32.ofNat i))]) rfl ?_
        refine Run.icmp hK (cd := .ge) (o := 20) (by decide +kernel) (by decide) (pc' := 29) rfl (fun q => by replace q := (h_ge _ _).1 q; exact absurd ((ofN_lt2 (by omega) (by omega)).mpr e) q) (fun _ => ?_)
        refine Run.pure hK (seg := [(12, .aload_n 0, 1), (13, .iload_n 1, 1)]) (by decide +kernel) (pc' := 14) (L' := #[.val (.ref x), .val (.int (Int32.ofNat i)), .val (.int (Int32.ofNat 8)), .unset, .unset]) (S' := [(.int (Int32.ofNat i)), (.ref x)]) rfl ?_
        refine Run.virtual hK (index := 13) (y := (⟨"java/lang/String", "charAt", "(I)C"⟩ : MethodName)) (z := (⟨"java/lang/String", "charAt", "(I)C"⟩ : MethodName)) (C := "java/lang/String") (Wt := 0) (kc := 0) (ks := 0) (hw _ (List.mem_of_getElem? (i := 61) rfl)) (hw _ (List.mem_of_getElem? (i := 62) rfl)) (nfS (hw _ (List.mem_of_getElem? (i := 64) rfl))) (hw _ (List.mem_of_getElem? (i := 64) rfl)) (hw _ (List.mem_of_getElem? (i := 63) rfl)) (by decide) (a := x) F.1 (fun _ q => q) (cal_chr (g_chN hw) (hw _ (List.mem_of_getElem? (i := 19) rfl)) F O2 P5 O4.1 O4.2 (show i < cs.length by omega) rfl (by decide) (by decide)) rfl (argsL := [(.int (Int32.ofNat i))]) (rest := []) (lenOf pd_ch rfl) rfl (Nat.le_of_ble_eq_true rfl) (by decide +kernel) (by decide) (by decide) (fun v2 h2 q2 n2 => ?_)
        obtain ⟨rfl, rfl⟩ := q2
        refine Run.static hK (index := 17) (y := (⟨"com/example/libidem/libidem/http/KeyHeader", "isBlank", "(C)Z"⟩ : MethodName)) (Wt := 0) (kc := 0) (ks := 0) (hw _ (List.mem_of_getElem? (i := 83) rfl)) (hw _ (List.mem_of_getElem? (i := 84) rfl)) (hw _ (List.mem_of_getElem? (i := 49) rfl)) (hw _ (List.mem_of_getElem? (i := 85) rfl)) (by decide) (W' := []) (fun _ q => nomatch q) (Ctr.cal (c_isb G (cs.getD i 0) h2) (hw _ (List.mem_of_getElem? (i := 85) rfl)) (hw _ (List.mem_of_getElem? (i := 49) rfl)) (by decide) (by decide)) rfl (argsL := [(.int (cs.getD i 0))]) (rest := []) (lenOf pd_cz rfl) rfl (Nat.le_of_ble_eq_true rfl) (by decide +kernel) (by decide) (by decide) (fun v3 h3 q3 n3 => ?_)
        obtain ⟨rfl, r, rfl, hr⟩ := q3
        rcases hr with ⟨rfl, hr⟩ | ⟨rfl, hr⟩
        · refine Run.ifz hK (cd := .eq) (o := 9) (by decide +kernel) (by decide) (pc' := 29) rfl (fun q => by replace q := (h_eq _ _).1 q; exact absurd q (by decide)) (fun _ => ?_)
          refine Run.pure hK (seg := [(23, .iinc 1 1, 3), (26, .goto (-19), 3)]) (by decide +kernel) (pc' := 7) (L' := #[.val (.ref x), .val (.int ((Int32.ofNat i) + (1 : Int32))), .val (.int (Int32.ofNat 8)), .unset, .unset]) (S' := []) rfl ?_
          rw [show Int32.ofNat i + (1 : Int32) = Int32.ofNat (i + 1) from ofN_add (n := i) (m := 1) (by omega)]
          refine ih (i + 1) (by omega) (by omega) (fun k g1 => ?_)
          rcases Nat.lt_or_ge k i with r | r
          · exact a1 k r
          · obtain rfl : k = i := by omega
            exact hr
        · refine Run.ifz hK (cd := .eq) (o := 9) (by decide +kernel) (by decide) (pc' := 29) rfl (fun _ => ?_) (fun q => by replace q := (h_eq _ _).2 q; exact absurd rfl q)
          exact lo2 8 i 8 (by omega) (by omega) (by omega) a1 (Or.inr hr) (fun k g1 g2 => by omega)
    exact lo1 8 0 (by omega) (by omega) (fun k g => by omega)
  intro i j u1 u2 a1 a2 b1 b2
  have hf : (cs.take j).drop i = body q ks := by
    rw [e_cs] at a1 a2 b1 b2 ⊢
    exact trim hbl hll (body_ends (fun z c hc => by rcases hq with y | y; (exact absurd (z.symm.trans y) (by decide)); exact bok_bl (y.2 c hc) (hk c hc))) u1 (by omega) a1 (by rw [hB]; exact a2) (by rw [hB]; exact b1) b2
  refine Run.pure hK (seg := [(53, .aload_n 0, 1), (54, .iload_n 1, 1), (55, .iload_n 2, 1)]) (by decide +kernel) (pc' := 56) (L' := #[.val (.ref x), .val (.int (Int32.ofNat i)), .val (.int (Int32.ofNat j)), .unset, .unset]) (S' := [(.int (Int32.ofNat j)), (.int (Int32.ofNat i)), (.ref x)]) rfl ?_
  refine Run.virtual hK (index := 23) (y := (⟨"java/lang/String", "substring", "(II)Ljava/lang/String;"⟩ : MethodName)) (z := (⟨"java/lang/String", "substring", "(II)Ljava/lang/String;"⟩ : MethodName)) (C := "java/lang/String") (Wt := 0) (kc := 2) (ks := 12) (hw _ (List.mem_of_getElem? (i := 86) rfl)) (hw _ (List.mem_of_getElem? (i := 87) rfl)) (nfS (hw _ (List.mem_of_getElem? (i := 89) rfl))) (hw _ (List.mem_of_getElem? (i := 89) rfl)) (hw _ (List.mem_of_getElem? (i := 88) rfl)) (by decide) (a := x) F.1 (W' := []) (fun _ q => nomatch q) (Ctr.cal (c_sub G x i j h1 F u1 (by omega) (by omega)) (hw _ (List.mem_of_getElem? (i := 90) rfl)) (hw _ (List.mem_of_getElem? (i := 20) rfl)) (by decide) (by decide)) rfl (argsL := [(.int (Int32.ofNat i)), (.int (Int32.ofNat j))]) (rest := []) (lenOf pd_sub rfl) rfl (Nat.le_of_ble_eq_true rfl) (by decide +kernel) (by decide) (by decide) (fun v4 h4 q4 n4 => ?_)
  obtain ⟨a4, rfl, F4, E4⟩ := q4
  rw [hf] at F4
  refine Run.pure hK (seg := [(59, .astore_n 3, 1), (60, .aload_n 3, 1)]) (by decide +kernel) (pc' := 61) (L' := #[.val (.ref x), .val (.int (Int32.ofNat i)), .val (.int (Int32.ofNat j)), .val (.ref a4), .unset]) (S' := [(.ref a4)]) rfl ?_
  refine Run.ldcs hK (index := 27) rfl (text := "\"") (hw _ (List.mem_of_getElem? (i := 123) rfl)) wS (by decide) (vs := ((([34] : List Int32).map StrChars.lo8).map Value.int)) (z := (1 : Int32)) (by decide +kernel) (by decide) (by decide +kernel) (by decide +kernel) (n := 4) (by decide) (by decide) (by decide) (by decide) (fun h5 x5 b5 k5 E5 X5 C5 V5 A5 => ?_)
  have D5 : Str Z h5 x5 [34] := ⟨X5, C5, ⟨b5, k5, V5, A5⟩, (by decide), by decide⟩
  replace F4 := F4.ext E5
  refine Run.virtual hK (index := 29) (y := (⟨"java/lang/String", "startsWith", "(Ljava/lang/String;)Z"⟩ : MethodName)) (z := (⟨"java/lang/String", "startsWith", "(Ljava/lang/String;)Z"⟩ : MethodName)) (C := "java/lang/String") (Wt := 0) (kc := 0) (ks := 0) (hw _ (List.mem_of_getElem? (i := 126) rfl)) (hw _ (List.mem_of_getElem? (i := 127) rfl)) (nfS (hw _ (List.mem_of_getElem? (i := 129) rfl))) (hw _ (List.mem_of_getElem? (i := 129) rfl)) (hw _ (List.mem_of_getElem? (i := 128) rfl)) (by decide) (a := a4) F4.1 (W' := []) (fun _ q => nomatch q) (Ctr.cal (c_sw1 G a4 x5 34 h5 F4 D5) (hw _ (List.mem_of_getElem? (i := 130) rfl)) (hw _ (List.mem_of_getElem? (i := 20) rfl)) (by decide) (by decide)) rfl (argsL := [(.ref x5)]) (rest := []) (lenOf pd_sw1 rfl) rfl (Nat.le_of_ble_eq_true rfl) (by decide +kernel) (by decide) (by decide) (fun v6 h6 q6 n6 => ?_)
  obtain ⟨rfl, r, rfl, hr⟩ := q6
  rcases hq with rfl | ⟨rfl, hbk⟩
  · obtain rfl : r = 1 := by rcases hr with ⟨z, -⟩ | ⟨-, z⟩; exact z; exact absurd ⟨by rw [q_len]; omega, rfl⟩ z
    refine Run.ifz hK (cd := .eq) (o := 12) (by decide +kernel) (by decide) (pc' := 78) rfl (fun q => by replace q := (h_eq _ _).1 q; exact absurd q (by decide)) (fun _ => ?_)
    refine Run.pure hK (seg := [(69, .aload_n 3, 1)]) (by decide +kernel) (pc' := 70) (L' := #[.val (.ref x), .val (.int (Int32.ofNat i)), .val (.int (Int32.ofNat j)), .val (.ref a4), .unset]) (S' := [(.ref a4)]) rfl ?_
    refine Run.static hK (index := 33) (y := (⟨"com/example/libidem/libidem/http/KeyHeader", "unquoted", "(Ljava/lang/String;)Ljava/lang/String;"⟩ : MethodName)) (Wt := 0) (kc := 4) (ks := 40) (hw _ (List.mem_of_getElem? (i := 140) rfl)) (hw _ (List.mem_of_getElem? (i := 141) rfl)) (hw _ (List.mem_of_getElem? (i := 49) rfl)) (hw _ (List.mem_of_getElem? (i := 142) rfl)) (by decide) (W' := []) (fun _ q => nomatch q) (Ctr.cal (c_unq G a4 h6 F4 hk hk3) (hw _ (List.mem_of_getElem? (i := 142) rfl)) (hw _ (List.mem_of_getElem? (i := 49) rfl)) (by decide) (by decide)) rfl (argsL := [(.ref a4)]) (rest := []) (lenOf pd_ss rfl) rfl (Nat.le_of_ble_eq_true rfl) (by decide +kernel) (by decide) (by decide) (fun v7 h7 q7 n7 => ?_)
    obtain ⟨a7, rfl, F7, E7⟩ := q7
    refine Run.pure hK (seg := [(73, .astore 4, 2), (75, .goto 9, 3), (84, .aload 4, 2)]) (by decide +kernel) (pc' := 86) (L' := #[.val (.ref x), .val (.int (Int32.ofNat i)), .val (.int (Int32.ofNat j)), .val (.ref a4), .val (.ref a7)]) (S' := [(.ref a7)]) rfl ?_
    exact Run.retw hK (i := .areturn) rfl (Or.inr (Or.inr (Or.inr (Or.inr ⟨rfl, rfl, rfl⟩)))) (by decide +kernel) (by decide) (by decide) ⟨a7, rfl, F7⟩
  · have eb : body 0 ks = ks := rfl
    rw [eb] at F4 hr
    obtain rfl : r = 0 := by rcases hr with ⟨-, z1, z2⟩ | ⟨z, -⟩; (exact absurd z2 (getD_mem hbk z1).2.1); exact z
    refine Run.ifz hK (cd := .eq) (o := 12) (by decide +kernel) (by decide) (pc' := 78) rfl (fun _ => ?_) (fun q => by replace q := (h_eq _ _).2 q; exact absurd rfl q)
    refine Run.pure hK (seg := [(78, .aload_n 3, 1)]) (by decide +kernel) (pc' := 79) (L' := #[.val (.ref x), .val (.int (Int32.ofNat i)), .val (.int (Int32.ofNat j)), .val (.ref a4), .unset]) (S' := [(.ref a4)]) rfl ?_
    refine Run.static hK (index := 37) (y := (⟨"com/example/libidem/libidem/http/KeyHeader", "bare", "(Ljava/lang/String;)Ljava/lang/String;"⟩ : MethodName)) (Wt := 0) (kc := 0) (ks := 0) (hw _ (List.mem_of_getElem? (i := 215) rfl)) (hw _ (List.mem_of_getElem? (i := 216) rfl)) (hw _ (List.mem_of_getElem? (i := 49) rfl)) (hw _ (List.mem_of_getElem? (i := 217) rfl)) (by decide) (W' := []) (fun _ q => nomatch q) (Ctr.cal (c_bare G a4 h6 F4 (fun c hc => ⟨hk c hc, hbk c hc⟩)) (hw _ (List.mem_of_getElem? (i := 217) rfl)) (hw _ (List.mem_of_getElem? (i := 49) rfl)) (by decide) (by decide)) rfl (argsL := [(.ref a4)]) (rest := []) (lenOf pd_ss rfl) rfl (Nat.le_of_ble_eq_true rfl) (by decide +kernel) (by decide) (by decide) (fun v7 h7 q7 n7 => ?_)
    obtain ⟨rfl, rfl⟩ := q7
    refine Run.pure hK (seg := [(82, .astore 4, 2), (84, .aload 4, 2)]) (by decide +kernel) (pc' := 86) (L' := #[.val (.ref x), .val (.int (Int32.ofNat i)), .val (.int (Int32.ofNat j)), .val (.ref a4), .val (.ref a4)]) (S' := [(.ref a4)]) rfl ?_
    exact Run.retw hK (i := .areturn) rfl (Or.inr (Or.inr (Or.inr (Or.inr ⟨rfl, rfl, rfl⟩)))) (by decide +kernel) (by decide) (by decide) ⟨a4, rfl, F4⟩
def pre (q : Int32) : List Int32 := if q = 0 then [] else [34]
theorem body_pre (q : Int32) (ks : List Int32) : body q ks = pre q ++ enc q ks ++ pre q := by
  unfold body pre
  by_cases h : q = 0
  · rw [if_pos h, if_pos h, h, enc0, List.nil_append, List.append_nil]
  · rw [if_neg h, if_neg h]; rfl
theorem e1_len {c E : Int32} (h : (E = 1 ∧ (c = 34 ∨ c = 92)) ∨ (E = 0 ∧ ¬ (c = 34 ∨ c = 92))) : ∃ m : Nat, E = Int32.ofNat m ∧ (e1 1 c).length = 1 + m ∧ m ≤ 1 := by
  rcases h with ⟨h1, h2⟩ | ⟨h1, h2⟩
  · exact ⟨1, h1, by rw [e1_esc h2]; rfl, by decide⟩
  · exact ⟨0, h1, by rw [e1_not h2]; rfl, by decide⟩
theorem Sp_mem {Bl w : List Int32} {l : Nat} {x : Int32} (h : x ∈ Sp Bl l w) : x ∈ Bl ∨ x ∈ w := by
  unfold Sp at h
  rcases List.mem_append.mp h with r | r
  · rcases List.mem_append.mp r with r | r
    · exact Or.inl (List.mem_of_mem_take r)
    · exact Or.inr r
  · exact Or.inl (List.mem_of_mem_drop r)
set_option maxRecDepth 65536 in
set_option maxHeartbeats 40000000 in
theorem c_law {l : Launch} {Z : State} {a0 : Array Value} {z0 : Int32} {fm : Value} (G : Env1 Z a0 z0 fm) (i0 i1 i2 i3 i4 : Int32) (h : Heap) : Ctr Z consts_1 false l tables_1 x code maxLocals ret ({ frames := 11, cells := 32, slots := 2240, locals := 240 } : Room) #[(.int i0), (.int i1), (.int i2), (.int i3), (.int i4)] h [] (fun v h' => v = some (.int 1)) := by
  obtain ⟨hw, hEL, O2, P5, O4⟩ := id G
  refine Ctr.of_run (a0 := a0) (L0 := #[.val (.int i0), .val (.int i1), .val (.int i2), .val (.int i3), .val (.int i4), .unset, .unset, .unset, .unset, .unset, .unset, .unset, .unset, .unset, .unset, .unset, .unset, .unset, .unset, .unset]) (plainFor_of_name pn_law) hEL (by first | (simp [argsToLocals, Value.category, maxLocals]; done) | rfl) (fun K hK => ?_)
  replace hK : Ok Z consts_1 a0 l "com/example/libidem/libidem/http/KeyHeaderParsePinLaw" "law" code 20 (some .boolean) ({ frames := 11, cells := 32, slots := 2240, locals := 240 } : Room) K := hK
  refine Run.old (fun hO => ?_)
  refine Run.pure hK (seg := [(0, .iload_n 0, 1)]) (by decide +kernel) (pc' := 1) (L' := #[.val (.int i0), .val (.int i1), .val (.int i2), .val (.int i3), .val (.int i4), .unset, .unset, .unset, .unset, .unset, .unset, .unset, .unset, .unset, .unset, .unset, .unset, .unset, .unset, .unset]) (S' := [(.int i0)]) rfl ?_
  refine Run.static hK (index := 14) (y := (⟨"com/example/libidem/libidem/http/KeyHeaderParsePinLaw", "printable", "(I)C"⟩ : MethodName)) (Wt := 0) (kc := 0) (ks := 0) (hw _ (List.mem_of_getElem? (i := 0) rfl)) (hw _ (List.mem_of_getElem? (i := 1) rfl)) (hw _ (List.mem_of_getElem? (i := 2) rfl)) (hw _ (List.mem_of_getElem? (i := 3) rfl)) (by decide) (W' := []) (fun _ q => nomatch q) (Ctr.cal (c_prt G i0 h) (hw _ (List.mem_of_getElem? (i := 3) rfl)) (hw _ (List.mem_of_getElem? (i := 2) rfl)) (by decide) (by decide)) rfl (argsL := [(.int i0)]) (rest := []) (lenOf pd_prt rfl) rfl (Nat.le_of_ble_eq_true rfl) (by decide +kernel) (by decide) (by decide) (fun vp0 hp0 qp0 np0 => ?_)
  obtain ⟨rfl, c0, rfl, p0⟩ := qp0
  refine Run.pure hK (seg := [(4, .istore 5, 2), (6, .iload_n 1, 1)]) (by decide +kernel) (pc' := 7) (L' := #[.val (.int i0), .val (.int i1), .val (.int i2), .val (.int i3), .val (.int i4), .val (.int c0), .unset, .unset, .unset, .unset, .unset, .unset, .unset, .unset, .unset, .unset, .unset, .unset, .unset, .unset]) (S' := [(.int i1)]) rfl ?_
  refine Run.static hK (index := 14) (y := (⟨"com/example/libidem/libidem/http/KeyHeaderParsePinLaw", "printable", "(I)C"⟩ : MethodName)) (Wt := 0) (kc := 0) (ks := 0) (hw _ (List.mem_of_getElem? (i := 0) rfl)) (hw _ (List.mem_of_getElem? (i := 1) rfl)) (hw _ (List.mem_of_getElem? (i := 2) rfl)) (hw _ (List.mem_of_getElem? (i := 3) rfl)) (by decide) (W' := []) (fun _ q => nomatch q) (Ctr.cal (c_prt G i1 hp0) (hw _ (List.mem_of_getElem? (i := 3) rfl)) (hw _ (List.mem_of_getElem? (i := 2) rfl)) (by decide) (by decide)) rfl (argsL := [(.int i1)]) (rest := []) (lenOf pd_prt rfl) rfl (Nat.le_of_ble_eq_true rfl) (by decide +kernel) (by decide) (by decide) (fun vp1 hp1 qp1 np1 => ?_)
  obtain ⟨rfl, c1, rfl, p1⟩ := qp1
  refine Run.pure hK (seg := [(10, .istore 6, 2), (12, .iload_n 2, 1)]) (by decide +kernel) (pc' := 13) (L' := #[.val (.int i0), .val (.int i1), .val (.int i2), .val (.int i3), .val (.int i4), .val (.int c0), .val (.int c1), .unset, .unset, .unset, .unset, .unset, .unset, .unset, .unset, .unset, .unset, .unset, .unset, .unset]) (S' := [(.int i2)]) rfl ?_
  refine Run.static hK (index := 14) (y := (⟨"com/example/libidem/libidem/http/KeyHeaderParsePinLaw", "printable", "(I)C"⟩ : MethodName)) (Wt := 0) (kc := 0) (ks := 0) (hw _ (List.mem_of_getElem? (i := 0) rfl)) (hw _ (List.mem_of_getElem? (i := 1) rfl)) (hw _ (List.mem_of_getElem? (i := 2) rfl)) (hw _ (List.mem_of_getElem? (i := 3) rfl)) (by decide) (W' := []) (fun _ q => nomatch q) (Ctr.cal (c_prt G i2 hp1) (hw _ (List.mem_of_getElem? (i := 3) rfl)) (hw _ (List.mem_of_getElem? (i := 2) rfl)) (by decide) (by decide)) rfl (argsL := [(.int i2)]) (rest := []) (lenOf pd_prt rfl) rfl (Nat.le_of_ble_eq_true rfl) (by decide +kernel) (by decide) (by decide) (fun vp2 hp2 qp2 np2 => ?_)
  obtain ⟨rfl, c2, rfl, p2⟩ := qp2
  refine Run.pure hK (seg := [(16, .istore 7, 2), (18, .iload_n 3, 1), (19, .iconst 3, 1), (20, .iand, 1)]) (by decide +kernel) (pc' := 21) (L' := #[.val (.int i0), .val (.int i1), .val (.int i2), .val (.int i3), .val (.int i4), .val (.int c0), .val (.int c1), .val (.int c2), .unset, .unset, .unset, .unset, .unset, .unset, .unset, .unset, .unset, .unset, .unset, .unset]) (S' := [(.int (i3 &&& (3 : Int32)))]) rfl ?_
  have hn := and3 i3
  obtain ⟨n, e_n⟩ : ∃ z : Int32, z = i3 &&& (3 : Int32) := ⟨_, rfl⟩
  rw [← e_n] at hn ⊢
  rcases hn with rfl | rfl | rfl | rfl
  · have hk : ∀ c ∈ ([] : List Int32), prt c := fun c hc => by cases hc
    refine Run.pure hK (seg := [(21, .istore 8, 2), (23, .iload 8, 2)]) (by decide +kernel) (pc' := 25) (L' := #[.val (.int i0), .val (.int i1), .val (.int i2), .val (.int i3), .val (.int i4), .val (.int c0), .val (.int c1), .val (.int c2), .val (.int (0 : Int32)), .unset, .unset, .unset, .unset, .unset, .unset, .unset, .unset, .unset, .unset, .unset]) (S' := [(.int (0 : Int32))]) rfl ?_
    refine Run.ifz hK (cd := .le) (o := 7) (by decide +kernel) (by decide) (pc' := 32) rfl (fun _ => ?_) (fun q => by replace q := (h_le _ _).2 q; exact absurd q (by decide))
    refine Run.pure hK (seg := [(32, .iconst 0, 1)]) (by decide +kernel) (pc' := 33) (L' := #[.val (.int i0), .val (.int i1), .val (.int i2), .val (.int i3), .val (.int i4), .val (.int c0), .val (.int c1), .val (.int c2), .val (.int (0 : Int32)), .unset, .unset, .unset, .unset, .unset, .unset, .unset, .unset, .unset, .unset, .unset]) (S' := [(.int (0 : Int32))]) rfl ?_
    refine Run.pure hK (seg := [(33, .istore 9, 2), (35, .iload 8, 2), (37, .iconst 1, 1)]) (by decide +kernel) (pc' := 38) (L' := #[.val (.int i0), .val (.int i1), .val (.int i2), .val (.int i3), .val (.int i4), .val (.int c0), .val (.int c1), .val (.int c2), .val (.int (0 : Int32)), .val (.int (0 : Int32)), .unset, .unset, .unset, .unset, .unset, .unset, .unset, .unset, .unset, .unset]) (S' := [(.int (1 : Int32)), (.int (0 : Int32))]) rfl ?_
    refine Run.icmp hK (cd := .le) (o := 7) (by decide +kernel) (by decide) (pc' := 45) rfl (fun _ => ?_) (fun q => by replace q := (h_le _ _).2 q; exact absurd q (by decide))
    refine Run.pure hK (seg := [(45, .iconst 0, 1)]) (by decide +kernel) (pc' := 46) (L' := #[.val (.int i0), .val (.int i1), .val (.int i2), .val (.int i3), .val (.int i4), .val (.int c0), .val (.int c1), .val (.int c2), .val (.int (0 : Int32)), .val (.int (0 : Int32)), .unset, .unset, .unset, .unset, .unset, .unset, .unset, .unset, .unset, .unset]) (S' := [(.int (0 : Int32))]) rfl ?_
    refine Run.pure hK (seg := [(46, .istore 10, 2), (48, .iload 8, 2), (50, .iconst 2, 1)]) (by decide +kernel) (pc' := 51) (L' := #[.val (.int i0), .val (.int i1), .val (.int i2), .val (.int i3), .val (.int i4), .val (.int c0), .val (.int c1), .val (.int c2), .val (.int (0 : Int32)), .val (.int (0 : Int32)), .val (.int (0 : Int32)), .unset, .unset, .unset, .unset, .unset, .unset, .unset, .unset, .unset]) (S' := [(.int (2 : Int32)), (.int (0 : Int32))]) rfl ?_
    refine Run.icmp hK (cd := .le) (o := 7) (by decide +kernel) (by decide) (pc' := 58) rfl (fun _ => ?_) (fun q => by replace q := (h_le _ _).2 q; exact absurd q (by decide))
    refine Run.pure hK (seg := [(58, .iconst 0, 1)]) (by decide +kernel) (pc' := 59) (L' := #[.val (.int i0), .val (.int i1), .val (.int i2), .val (.int i3), .val (.int i4), .val (.int c0), .val (.int c1), .val (.int c2), .val (.int (0 : Int32)), .val (.int (0 : Int32)), .val (.int (0 : Int32)), .unset, .unset, .unset, .unset, .unset, .unset, .unset, .unset, .unset]) (S' := [(.int (0 : Int32))]) rfl ?_
    refine Run.pure hK (seg := [(59, .istore 11, 2), (61, .iload 9, 2)]) (by decide +kernel) (pc' := 63) (L' := #[.val (.int i0), .val (.int i1), .val (.int i2), .val (.int i3), .val (.int i4), .val (.int c0), .val (.int c1), .val (.int c2), .val (.int (0 : Int32)), .val (.int (0 : Int32)), .val (.int (0 : Int32)), .val (.int (0 : Int32)), .unset, .unset, .unset, .unset, .unset, .unset, .unset, .unset]) (S' := [(.int (0 : Int32))]) rfl ?_
    suffices s105 : ∀ cb : Int32, ((cb = 1 ∧ ∀ c ∈ ([] : List Int32), bok c) ∨ cb = 0) → Run Z consts_1 false K (fun v h' => v = some (.int 1)) [] hp2 0 0 105 #[.val (.int i0), .val (.int i1), .val (.int i2), .val (.int i3), .val (.int i4), .val (.int c0), .val (.int c1), .val (.int c2), .val (.int (0 : Int32)), .val (.int (0 : Int32)), .val (.int (0 : Int32)), .val (.int (0 : Int32)), .unset, .unset, .unset, .unset, .unset, .unset, .unset, .unset] [(.int cb)] by
      refine Run.ifz hK (cd := .eq) (o := 11) (by decide +kernel) (by decide) (pc' := 74) rfl (fun _ => ?_) (fun q => by replace q := (h_eq _ _).2 q; exact absurd rfl q)
      refine Run.pure hK (seg := [(74, .iload 10, 2)]) (by decide +kernel) (pc' := 76) (L' := #[.val (.int i0), .val (.int i1), .val (.int i2), .val (.int i3), .val (.int i4), .val (.int c0), .val (.int c1), .val (.int c2), .val (.int (0 : Int32)), .val (.int (0 : Int32)), .val (.int (0 : Int32)), .val (.int (0 : Int32)), .unset, .unset, .unset, .unset, .unset, .unset, .unset, .unset]) (S' := [(.int (0 : Int32))]) rfl ?_
      refine Run.ifz hK (cd := .eq) (o := 11) (by decide +kernel) (by decide) (pc' := 87) rfl (fun _ => ?_) (fun q => by replace q := (h_eq _ _).2 q; exact absurd rfl q)
      refine Run.pure hK (seg := [(87, .iload 11, 2)]) (by decide +kernel) (pc' := 89) (L' := #[.val (.int i0), .val (.int i1), .val (.int i2), .val (.int i3), .val (.int i4), .val (.int c0), .val (.int c1), .val (.int c2), .val (.int (0 : Int32)), .val (.int (0 : Int32)), .val (.int (0 : Int32)), .val (.int (0 : Int32)), .unset, .unset, .unset, .unset, .unset, .unset, .unset, .unset]) (S' := [(.int (0 : Int32))]) rfl ?_
      refine Run.ifz hK (cd := .eq) (o := 11) (by decide +kernel) (by decide) (pc' := 100) rfl (fun _ => ?_) (fun q => by replace q := (h_eq _ _).2 q; exact absurd rfl q)
      refine Run.pure hK (seg := [(100, .iconst 1, 1), (101, .goto 4, 3)]) (by decide +kernel) (pc' := 105) (L' := #[.val (.int i0), .val (.int i1), .val (.int i2), .val (.int i3), .val (.int i4), .val (.int c0), .val (.int c1), .val (.int c2), .val (.int (0 : Int32)), .val (.int (0 : Int32)), .val (.int (0 : Int32)), .val (.int (0 : Int32)), .unset, .unset, .unset, .unset, .unset, .unset, .unset, .unset]) (S' := [(.int (1 : Int32))]) rfl ?_
      exact s105 1 (Or.inl ⟨rfl, fun c hc => by cases hc⟩)
    intro cb hcb
    refine Run.pure hK (seg := [(105, .istore 12, 2), (107, .iload_n 3, 1), (108, .iconst 4, 1), (109, .iand, 1)]) (by decide +kernel) (pc' := 110) (L' := #[.val (.int i0), .val (.int i1), .val (.int i2), .val (.int i3), .val (.int i4), .val (.int c0), .val (.int c1), .val (.int c2), .val (.int (0 : Int32)), .val (.int (0 : Int32)), .val (.int (0 : Int32)), .val (.int (0 : Int32)), .val (.int cb), .unset, .unset, .unset, .unset, .unset, .unset, .unset]) (S' := [(.int (i3 &&& (4 : Int32)))]) rfl ?_
    suffices s123 : ∀ q : Int32, (q = 1 ∨ (q = 0 ∧ ∀ c ∈ ([] : List Int32), bok c)) → Run Z consts_1 false K (fun v h' => v = some (.int 1)) [] hp2 0 0 123 #[.val (.int i0), .val (.int i1), .val (.int i2), .val (.int i3), .val (.int i4), .val (.int c0), .val (.int c1), .val (.int c2), .val (.int (0 : Int32)), .val (.int (0 : Int32)), .val (.int (0 : Int32)), .val (.int (0 : Int32)), .val (.int cb), .unset, .unset, .unset, .unset, .unset, .unset, .unset] [(.int q)] by
      refine Run.ifz hK (cd := .ne) (o := 8) (by decide +kernel) (by decide) (pc' := 118) rfl (fun r1 => ?_) (fun r1 => ?_)
      · replace r1 := (h_ne _ _).1 r1
        refine Run.pure hK (seg := [(118, .iconst 1, 1), (119, .goto 4, 3)]) (by decide +kernel) (pc' := 123) (L' := #[.val (.int i0), .val (.int i1), .val (.int i2), .val (.int i3), .val (.int i4), .val (.int c0), .val (.int c1), .val (.int c2), .val (.int (0 : Int32)), .val (.int (0 : Int32)), .val (.int (0 : Int32)), .val (.int (0 : Int32)), .val (.int cb), .unset, .unset, .unset, .unset, .unset, .unset, .unset]) (S' := [(.int (1 : Int32))]) rfl ?_
        exact s123 1 (Or.inl rfl)
      · replace r1 := (h_ne _ _).2 r1
        refine Run.pure hK (seg := [(113, .iload 12, 2)]) (by decide +kernel) (pc' := 115) (L' := #[.val (.int i0), .val (.int i1), .val (.int i2), .val (.int i3), .val (.int i4), .val (.int c0), .val (.int c1), .val (.int c2), .val (.int (0 : Int32)), .val (.int (0 : Int32)), .val (.int (0 : Int32)), .val (.int (0 : Int32)), .val (.int cb), .unset, .unset, .unset, .unset, .unset, .unset, .unset]) (S' := [(.int cb)]) rfl ?_
        refine Run.ifz hK (cd := .ne) (o := 7) (by decide +kernel) (by decide) (pc' := 122) rfl (fun r2 => ?_) (fun r2 => ?_)
        · replace r2 := (h_ne _ _).1 r2
          refine Run.pure hK (seg := [(122, .iconst 0, 1)]) (by decide +kernel) (pc' := 123) (L' := #[.val (.int i0), .val (.int i1), .val (.int i2), .val (.int i3), .val (.int i4), .val (.int c0), .val (.int c1), .val (.int c2), .val (.int (0 : Int32)), .val (.int (0 : Int32)), .val (.int (0 : Int32)), .val (.int (0 : Int32)), .val (.int cb), .unset, .unset, .unset, .unset, .unset, .unset, .unset]) (S' := [(.int (0 : Int32))]) rfl ?_
          exact s123 0 (Or.inr ⟨rfl, by rcases hcb with ⟨-, y⟩ | y; exact y; exact absurd y r2⟩)
        · replace r2 := (h_ne _ _).2 r2
          refine Run.pure hK (seg := [(118, .iconst 1, 1), (119, .goto 4, 3)]) (by decide +kernel) (pc' := 123) (L' := #[.val (.int i0), .val (.int i1), .val (.int i2), .val (.int i3), .val (.int i4), .val (.int c0), .val (.int c1), .val (.int c2), .val (.int (0 : Int32)), .val (.int (0 : Int32)), .val (.int (0 : Int32)), .val (.int (0 : Int32)), .val (.int cb), .unset, .unset, .unset, .unset, .unset, .unset, .unset]) (S' := [(.int (1 : Int32))]) rfl ?_
          exact s123 1 (Or.inl rfl)
    intro q hq
    refine Run.pure hK (seg := [(123, .istore 13, 2)]) (by decide +kernel) (pc' := 125) (L' := #[.val (.int i0), .val (.int i1), .val (.int i2), .val (.int i3), .val (.int i4), .val (.int c0), .val (.int c1), .val (.int c2), .val (.int (0 : Int32)), .val (.int (0 : Int32)), .val (.int (0 : Int32)), .val (.int (0 : Int32)), .val (.int cb), .val (.int q), .unset, .unset, .unset, .unset, .unset, .unset]) (S' := []) rfl ?_
    suffices s200 : (body q ([] : List Int32)).length ≤ 8 → Run Z consts_1 false K (fun v h' => v = some (.int 1)) [] hp2 0 0 200 #[.val (.int i0), .val (.int i1), .val (.int i2), .val (.int i3), .val (.int i4), .val (.int c0), .val (.int c1), .val (.int c2), .val (.int (0 : Int32)), .val (.int (0 : Int32)), .val (.int (0 : Int32)), .val (.int (0 : Int32)), .val (.int cb), .val (.int q), .val (.int (Int32.ofNat (body q ([] : List Int32)).length)), .unset, .unset, .unset, .unset, .unset] [] by
      rcases hq with rfl | ⟨rfl, -⟩
      · refine Run.pure hK (seg := [(125, .iload 13, 2)]) (by decide +kernel) (pc' := 127) (L' := #[.val (.int i0), .val (.int i1), .val (.int i2), .val (.int i3), .val (.int i4), .val (.int c0), .val (.int c1), .val (.int c2), .val (.int (0 : Int32)), .val (.int (0 : Int32)), .val (.int (0 : Int32)), .val (.int (0 : Int32)), .val (.int cb), .val (.int (1 : Int32)), .unset, .unset, .unset, .unset, .unset, .unset]) (S' := [(.int (1 : Int32))]) rfl ?_
        refine Run.ifz hK (cd := .eq) (o := 69) (by decide +kernel) (by decide) (pc' := 196) rfl (fun q => by replace q := (h_eq _ _).1 q; exact absurd q (by decide)) (fun _ => ?_)
        refine Run.pure hK (seg := [(130, .iconst 2, 1), (131, .iload 8, 2), (133, .iadd, 1), (134, .iload 9, 2)]) (by decide +kernel) (pc' := 136) (L' := #[.val (.int i0), .val (.int i1), .val (.int i2), .val (.int i3), .val (.int i4), .val (.int c0), .val (.int c1), .val (.int c2), .val (.int (0 : Int32)), .val (.int (0 : Int32)), .val (.int (0 : Int32)), .val (.int (0 : Int32)), .val (.int cb), .val (.int (1 : Int32)), .unset, .unset, .unset, .unset, .unset, .unset]) (S' := [(.int (0 : Int32)), (.int ((2 : Int32) + (0 : Int32)))]) rfl ?_
        refine Run.ifz hK (cd := .eq) (o := 15) (by decide +kernel) (by decide) (pc' := 151) rfl (fun _ => ?_) (fun q => by replace q := (h_eq _ _).2 q; exact absurd rfl q)
        refine Run.pure hK (seg := [(151, .iconst 0, 1)]) (by decide +kernel) (pc' := 152) (L' := #[.val (.int i0), .val (.int i1), .val (.int i2), .val (.int i3), .val (.int i4), .val (.int c0), .val (.int c1), .val (.int c2), .val (.int (0 : Int32)), .val (.int (0 : Int32)), .val (.int (0 : Int32)), .val (.int (0 : Int32)), .val (.int cb), .val (.int (1 : Int32)), .unset, .unset, .unset, .unset, .unset, .unset]) (S' := [(.int (0 : Int32)), (.int ((2 : Int32) + (0 : Int32)))]) rfl ?_
        refine Run.pure hK (seg := [(152, .iadd, 1), (153, .iload 10, 2)]) (by decide +kernel) (pc' := 155) (L' := #[.val (.int i0), .val (.int i1), .val (.int i2), .val (.int i3), .val (.int i4), .val (.int c0), .val (.int c1), .val (.int c2), .val (.int (0 : Int32)), .val (.int (0 : Int32)), .val (.int (0 : Int32)), .val (.int (0 : Int32)), .val (.int cb), .val (.int (1 : Int32)), .unset, .unset, .unset, .unset, .unset, .unset]) (S' := [(.int (0 : Int32)), (.int (((2 : Int32) + (0 : Int32)) + (0 : Int32)))]) rfl ?_
        refine Run.ifz hK (cd := .eq) (o := 15) (by decide +kernel) (by decide) (pc' := 170) rfl (fun _ => ?_) (fun q => by replace q := (h_eq _ _).2 q; exact absurd rfl q)
        refine Run.pure hK (seg := [(170, .iconst 0, 1)]) (by decide +kernel) (pc' := 171) (L' := #[.val (.int i0), .val (.int i1), .val (.int i2), .val (.int i3), .val (.int i4), .val (.int c0), .val (.int c1), .val (.int c2), .val (.int (0 : Int32)), .val (.int (0 : Int32)), .val (.int (0 : Int32)), .val (.int (0 : Int32)), .val (.int cb), .val (.int (1 : Int32)), .unset, .unset, .unset, .unset, .unset, .unset]) (S' := [(.int (0 : Int32)), (.int (((2 : Int32) + (0 : Int32)) + (0 : Int32)))]) rfl ?_
        refine Run.pure hK (seg := [(171, .iadd, 1), (172, .iload 11, 2)]) (by decide +kernel) (pc' := 174) (L' := #[.val (.int i0), .val (.int i1), .val (.int i2), .val (.int i3), .val (.int i4), .val (.int c0), .val (.int c1), .val (.int c2), .val (.int (0 : Int32)), .val (.int (0 : Int32)), .val (.int (0 : Int32)), .val (.int (0 : Int32)), .val (.int cb), .val (.int (1 : Int32)), .unset, .unset, .unset, .unset, .unset, .unset]) (S' := [(.int (0 : Int32)), (.int ((((2 : Int32) + (0 : Int32)) + (0 : Int32)) + (0 : Int32)))]) rfl ?_
        refine Run.ifz hK (cd := .eq) (o := 15) (by decide +kernel) (by decide) (pc' := 189) rfl (fun _ => ?_) (fun q => by replace q := (h_eq _ _).2 q; exact absurd rfl q)
        refine Run.pure hK (seg := [(189, .iconst 0, 1)]) (by decide +kernel) (pc' := 190) (L' := #[.val (.int i0), .val (.int i1), .val (.int i2), .val (.int i3), .val (.int i4), .val (.int c0), .val (.int c1), .val (.int c2), .val (.int (0 : Int32)), .val (.int (0 : Int32)), .val (.int (0 : Int32)), .val (.int (0 : Int32)), .val (.int cb), .val (.int (1 : Int32)), .unset, .unset, .unset, .unset, .unset, .unset]) (S' := [(.int (0 : Int32)), (.int ((((2 : Int32) + (0 : Int32)) + (0 : Int32)) + (0 : Int32)))]) rfl ?_
        refine Run.pure hK (seg := [(190, .iadd, 1)]) (by decide +kernel) (pc' := 191) (L' := #[.val (.int i0), .val (.int i1), .val (.int i2), .val (.int i3), .val (.int i4), .val (.int c0), .val (.int c1), .val (.int c2), .val (.int (0 : Int32)), .val (.int (0 : Int32)), .val (.int (0 : Int32)), .val (.int (0 : Int32)), .val (.int cb), .val (.int (1 : Int32)), .unset, .unset, .unset, .unset, .unset, .unset]) (S' := [(.int (((((2 : Int32) + (0 : Int32)) + (0 : Int32)) + (0 : Int32)) + (0 : Int32)))]) rfl ?_
        have bl1 : (body 1 ([] : List Int32)).length = 2 := rfl
        have el : (((((2 : Int32) + (0 : Int32)) + (0 : Int32)) + (0 : Int32)) + (0 : Int32)) = Int32.ofNat (body 1 ([] : List Int32)).length := by
          rw [bl1]
          show (((2 : Int32) + (0 : Int32)) + (0 : Int32) + (0 : Int32) + (0 : Int32)) = _
          rfl
        rw [el]
        refine Run.pure hK (seg := [(191, .istore 14, 2), (193, .goto 7, 3)]) (by decide +kernel) (pc' := 200) (L' := #[.val (.int i0), .val (.int i1), .val (.int i2), .val (.int i3), .val (.int i4), .val (.int c0), .val (.int c1), .val (.int c2), .val (.int (0 : Int32)), .val (.int (0 : Int32)), .val (.int (0 : Int32)), .val (.int (0 : Int32)), .val (.int cb), .val (.int (1 : Int32)), .val (.int (Int32.ofNat (body 1 ([] : List Int32)).length)), .unset, .unset, .unset, .unset, .unset]) (S' := []) rfl ?_
        exact s200 (by decide)
      · refine Run.pure hK (seg := [(125, .iload 13, 2)]) (by decide +kernel) (pc' := 127) (L' := #[.val (.int i0), .val (.int i1), .val (.int i2), .val (.int i3), .val (.int i4), .val (.int c0), .val (.int c1), .val (.int c2), .val (.int (0 : Int32)), .val (.int (0 : Int32)), .val (.int (0 : Int32)), .val (.int (0 : Int32)), .val (.int cb), .val (.int (0 : Int32)), .unset, .unset, .unset, .unset, .unset, .unset]) (S' := [(.int (0 : Int32))]) rfl ?_
        refine Run.ifz hK (cd := .eq) (o := 69) (by decide +kernel) (by decide) (pc' := 196) rfl (fun _ => ?_) (fun q => by replace q := (h_eq _ _).2 q; exact absurd rfl q)
        refine Run.pure hK (seg := [(196, .iload 8, 2), (198, .istore 14, 2)]) (by decide +kernel) (pc' := 200) (L' := #[.val (.int i0), .val (.int i1), .val (.int i2), .val (.int i3), .val (.int i4), .val (.int c0), .val (.int c1), .val (.int c2), .val (.int (0 : Int32)), .val (.int (0 : Int32)), .val (.int (0 : Int32)), .val (.int (0 : Int32)), .val (.int cb), .val (.int (0 : Int32)), .val (.int (0 : Int32)), .unset, .unset, .unset, .unset, .unset]) (S' := []) rfl ?_
        exact s200 (by decide)
    intro hb8
    refine Run.pure hK (seg := [(200, .bipush 8, 2), (202, .iload 14, 2), (204, .isub, 1)]) (by decide +kernel) (pc' := 205) (L' := #[.val (.int i0), .val (.int i1), .val (.int i2), .val (.int i3), .val (.int i4), .val (.int c0), .val (.int c1), .val (.int c2), .val (.int (0 : Int32)), .val (.int (0 : Int32)), .val (.int (0 : Int32)), .val (.int (0 : Int32)), .val (.int cb), .val (.int q), .val (.int (Int32.ofNat (body q ([] : List Int32)).length)), .unset, .unset, .unset, .unset, .unset]) (S' := [(.int ((8 : Int32) - (Int32.ofNat (body q ([] : List Int32)).length)))]) rfl ?_
    rw [show (8 : Int32) - Int32.ofNat (body q ([] : List Int32)).length = Int32.ofNat (8 - (body q ([] : List Int32)).length) from ofN_sub (n := 8) (by omega) hb8]
    refine Run.pure hK (seg := [(205, .istore 15, 2), (207, .iload_n 3, 1), (208, .iconst 3, 1), (209, .iushr, 1), (210, .bipush 15, 2), (212, .iand, 1), (213, .iload 15, 2), (215, .iconst 1, 1), (216, .iadd, 1)]) (by decide +kernel) (pc' := 217) (L' := #[.val (.int i0), .val (.int i1), .val (.int i2), .val (.int i3), .val (.int i4), .val (.int c0), .val (.int c1), .val (.int c2), .val (.int (0 : Int32)), .val (.int (0 : Int32)), .val (.int (0 : Int32)), .val (.int (0 : Int32)), .val (.int cb), .val (.int q), .val (.int (Int32.ofNat (body q ([] : List Int32)).length)), .val (.int (Int32.ofNat (8 - (body q ([] : List Int32)).length))), .unset, .unset, .unset, .unset]) (S' := [(.int ((Int32.ofNat (8 - (body q ([] : List Int32)).length)) + (1 : Int32))), (.int ((XT.ushr i3 (3 : Int32)) &&& (15 : Int32)))]) rfl ?_
    obtain ⟨lo, e_l, hl8⟩ := rem_le (x := XT.ushr i3 3) (p := 8 - (body q ([] : List Int32)).length) (by omega)
    refine Run.irem hK (by decide +kernel) (fun z => by have y := congrArg Int32.toInt z; rw [show Int32.ofNat (8 - (body q ([] : List Int32)).length) + (1 : Int32) = Int32.ofNat (8 - (body q ([] : List Int32)).length + 1) from ofN_add (n := 8 - (body q ([] : List Int32)).length) (m := 1) (by omega), ofN (by omega), tI0] at y; omega) ?_
    rw [e_l]
    refine Run.pure hK (seg := [(218, .istore 16, 2), (220, .bipush 8, 2)]) (by decide +kernel) (pc' := 222) (L' := #[.val (.int i0), .val (.int i1), .val (.int i2), .val (.int i3), .val (.int i4), .val (.int c0), .val (.int c1), .val (.int c2), .val (.int (0 : Int32)), .val (.int (0 : Int32)), .val (.int (0 : Int32)), .val (.int (0 : Int32)), .val (.int cb), .val (.int q), .val (.int (Int32.ofNat (body q ([] : List Int32)).length)), .val (.int (Int32.ofNat (8 - (body q ([] : List Int32)).length))), .val (.int (Int32.ofNat lo)), .unset, .unset, .unset]) (S' := [(.int (8 : Int32))]) rfl ?_
    refine Run.newarr hK (aty := .char) (hw _ (List.mem_of_getElem? (i := 11) rfl)) (by decide +kernel) (by decide) (cap := 8) (by decide) (by decide) (by decide) (by decide) (fun hd kd Ed Ad => ?_)
    obtain ⟨ad, zd⟩ : ∃ z, z = hp2.size := ⟨_, rfl⟩
    rw [← zd]
    rw [← zd] at Ad
    have gd : hp2.size ≤ ad := by rw [zd]; exact Nat.le_refl _
    have gdz := Nat.le_trans hO.1 gd
    refine Run.less (W' := []) ?_ (fun _ q => nomatch q)
    refine Run.pure hK (seg := [(224, .astore 17, 2), (226, .aload 17, 2), (228, .iconst 0, 1), (229, .iload 4, 2), (231, .iconst 0, 1)]) (by decide +kernel) (pc' := 232) (L' := #[.val (.int i0), .val (.int i1), .val (.int i2), .val (.int i3), .val (.int i4), .val (.int c0), .val (.int c1), .val (.int c2), .val (.int (0 : Int32)), .val (.int (0 : Int32)), .val (.int (0 : Int32)), .val (.int (0 : Int32)), .val (.int cb), .val (.int q), .val (.int (Int32.ofNat (body q ([] : List Int32)).length)), .val (.int (Int32.ofNat (8 - (body q ([] : List Int32)).length))), .val (.int (Int32.ofNat lo)), .val (.ref ad), .unset, .unset]) (S' := [(.int (0 : Int32)), (.int i4), (.int (0 : Int32)), (.ref ad)]) rfl ?_
    refine Run.static hK (index := 21) (y := (⟨"com/example/libidem/libidem/http/KeyHeaderParsePinLaw", "blank", "(II)C"⟩ : MethodName)) (Wt := 2) (kc := 0) (ks := 0) (hw _ (List.mem_of_getElem? (i := 12) rfl)) (hw _ (List.mem_of_getElem? (i := 13) rfl)) (hw _ (List.mem_of_getElem? (i := 2) rfl)) (hw _ (List.mem_of_getElem? (i := 14) rfl)) (by decide) (W' := []) (fun _ q => nomatch q) (Ctr.cal (c_blk G i4 (0 : Int32) hd) (hw _ (List.mem_of_getElem? (i := 14) rfl)) (hw _ (List.mem_of_getElem? (i := 2) rfl)) (by decide) (by decide)) rfl (argsL := [(.int i4), (.int (0 : Int32))]) (rest := [(.int (0 : Int32)), (.ref ad)]) (lenOf pd_blk rfl) rfl (Nat.le_of_ble_eq_true rfl) (by decide +kernel) (by decide) (by decide) (fun vf0 hf0 qf0 nf0 => ?_)
    obtain ⟨rfl, r0, rfl, bl0, br0⟩ := qf0
    refine Run.cst hK Ad ⟨by decide, by decide⟩ gdz (by decide +kernel) (fun hd0 Wd0 Bd => ?_)
    replace Ad : Arv Z hd0 ad kd .char 8 [(.int r0), (.int (0 : Int32)), (.int (0 : Int32)), (.int (0 : Int32)), (.int (0 : Int32)), (.int (0 : Int32)), (.int (0 : Int32)), (.int (0 : Int32))] (.int 0) := by rw [nc br0] at Bd; exact Bd
    clear Bd
    have K0_ := Wd0
    refine Run.pure hK (seg := [(236, .aload 17, 2), (238, .iconst 1, 1), (239, .iload 4, 2), (241, .iconst 1, 1)]) (by decide +kernel) (pc' := 242) (L' := #[.val (.int i0), .val (.int i1), .val (.int i2), .val (.int i3), .val (.int i4), .val (.int c0), .val (.int c1), .val (.int c2), .val (.int (0 : Int32)), .val (.int (0 : Int32)), .val (.int (0 : Int32)), .val (.int (0 : Int32)), .val (.int cb), .val (.int q), .val (.int (Int32.ofNat (body q ([] : List Int32)).length)), .val (.int (Int32.ofNat (8 - (body q ([] : List Int32)).length))), .val (.int (Int32.ofNat lo)), .val (.ref ad), .unset, .unset]) (S' := [(.int (1 : Int32)), (.int i4), (.int (1 : Int32)), (.ref ad)]) rfl ?_
    refine Run.static hK (index := 21) (y := (⟨"com/example/libidem/libidem/http/KeyHeaderParsePinLaw", "blank", "(II)C"⟩ : MethodName)) (Wt := 2) (kc := 0) (ks := 0) (hw _ (List.mem_of_getElem? (i := 12) rfl)) (hw _ (List.mem_of_getElem? (i := 13) rfl)) (hw _ (List.mem_of_getElem? (i := 2) rfl)) (hw _ (List.mem_of_getElem? (i := 14) rfl)) (by decide) (W' := []) (fun _ q => nomatch q) (Ctr.cal (c_blk G i4 (1 : Int32) hd0) (hw _ (List.mem_of_getElem? (i := 14) rfl)) (hw _ (List.mem_of_getElem? (i := 2) rfl)) (by decide) (by decide)) rfl (argsL := [(.int i4), (.int (1 : Int32))]) (rest := [(.int (1 : Int32)), (.ref ad)]) (lenOf pd_blk rfl) rfl (Nat.le_of_ble_eq_true rfl) (by decide +kernel) (by decide) (by decide) (fun vf1 hf1 qf1 nf1 => ?_)
    obtain ⟨rfl, r1, rfl, bl1, br1⟩ := qf1
    refine Run.cst hK Ad ⟨by decide, by decide⟩ gdz (by decide +kernel) (fun hd1 Wd1 Bd => ?_)
    replace Ad : Arv Z hd1 ad kd .char 8 [(.int r0), (.int r1), (.int (0 : Int32)), (.int (0 : Int32)), (.int (0 : Int32)), (.int (0 : Int32)), (.int (0 : Int32)), (.int (0 : Int32))] (.int 0) := by rw [nc br1] at Bd; exact Bd
    clear Bd
    have K1_ := Wd1
    refine Run.pure hK (seg := [(246, .aload 17, 2), (248, .iconst 2, 1), (249, .iload 4, 2), (251, .iconst 2, 1)]) (by decide +kernel) (pc' := 252) (L' := #[.val (.int i0), .val (.int i1), .val (.int i2), .val (.int i3), .val (.int i4), .val (.int c0), .val (.int c1), .val (.int c2), .val (.int (0 : Int32)), .val (.int (0 : Int32)), .val (.int (0 : Int32)), .val (.int (0 : Int32)), .val (.int cb), .val (.int q), .val (.int (Int32.ofNat (body q ([] : List Int32)).length)), .val (.int (Int32.ofNat (8 - (body q ([] : List Int32)).length))), .val (.int (Int32.ofNat lo)), .val (.ref ad), .unset, .unset]) (S' := [(.int (2 : Int32)), (.int i4), (.int (2 : Int32)), (.ref ad)]) rfl ?_
    refine Run.static hK (index := 21) (y := (⟨"com/example/libidem/libidem/http/KeyHeaderParsePinLaw", "blank", "(II)C"⟩ : MethodName)) (Wt := 2) (kc := 0) (ks := 0) (hw _ (List.mem_of_getElem? (i := 12) rfl)) (hw _ (List.mem_of_getElem? (i := 13) rfl)) (hw _ (List.mem_of_getElem? (i := 2) rfl)) (hw _ (List.mem_of_getElem? (i := 14) rfl)) (by decide) (W' := []) (fun _ q => nomatch q) (Ctr.cal (c_blk G i4 (2 : Int32) hd1) (hw _ (List.mem_of_getElem? (i := 14) rfl)) (hw _ (List.mem_of_getElem? (i := 2) rfl)) (by decide) (by decide)) rfl (argsL := [(.int i4), (.int (2 : Int32))]) (rest := [(.int (2 : Int32)), (.ref ad)]) (lenOf pd_blk rfl) rfl (Nat.le_of_ble_eq_true rfl) (by decide +kernel) (by decide) (by decide) (fun vf2 hf2 qf2 nf2 => ?_)
    obtain ⟨rfl, r2, rfl, bl2, br2⟩ := qf2
    refine Run.cst hK Ad ⟨by decide, by decide⟩ gdz (by decide +kernel) (fun hd2 Wd2 Bd => ?_)
    replace Ad : Arv Z hd2 ad kd .char 8 [(.int r0), (.int r1), (.int r2), (.int (0 : Int32)), (.int (0 : Int32)), (.int (0 : Int32)), (.int (0 : Int32)), (.int (0 : Int32))] (.int 0) := by rw [nc br2] at Bd; exact Bd
    clear Bd
    have K2_ := Wd2
    refine Run.pure hK (seg := [(256, .aload 17, 2), (258, .iconst 3, 1), (259, .iload 4, 2), (261, .iconst 3, 1)]) (by decide +kernel) (pc' := 262) (L' := #[.val (.int i0), .val (.int i1), .val (.int i2), .val (.int i3), .val (.int i4), .val (.int c0), .val (.int c1), .val (.int c2), .val (.int (0 : Int32)), .val (.int (0 : Int32)), .val (.int (0 : Int32)), .val (.int (0 : Int32)), .val (.int cb), .val (.int q), .val (.int (Int32.ofNat (body q ([] : List Int32)).length)), .val (.int (Int32.ofNat (8 - (body q ([] : List Int32)).length))), .val (.int (Int32.ofNat lo)), .val (.ref ad), .unset, .unset]) (S' := [(.int (3 : Int32)), (.int i4), (.int (3 : Int32)), (.ref ad)]) rfl ?_
    refine Run.static hK (index := 21) (y := (⟨"com/example/libidem/libidem/http/KeyHeaderParsePinLaw", "blank", "(II)C"⟩ : MethodName)) (Wt := 2) (kc := 0) (ks := 0) (hw _ (List.mem_of_getElem? (i := 12) rfl)) (hw _ (List.mem_of_getElem? (i := 13) rfl)) (hw _ (List.mem_of_getElem? (i := 2) rfl)) (hw _ (List.mem_of_getElem? (i := 14) rfl)) (by decide) (W' := []) (fun _ q => nomatch q) (Ctr.cal (c_blk G i4 (3 : Int32) hd2) (hw _ (List.mem_of_getElem? (i := 14) rfl)) (hw _ (List.mem_of_getElem? (i := 2) rfl)) (by decide) (by decide)) rfl (argsL := [(.int i4), (.int (3 : Int32))]) (rest := [(.int (3 : Int32)), (.ref ad)]) (lenOf pd_blk rfl) rfl (Nat.le_of_ble_eq_true rfl) (by decide +kernel) (by decide) (by decide) (fun vf3 hf3 qf3 nf3 => ?_)
    obtain ⟨rfl, r3, rfl, bl3, br3⟩ := qf3
    refine Run.cst hK Ad ⟨by decide, by decide⟩ gdz (by decide +kernel) (fun hd3 Wd3 Bd => ?_)
    replace Ad : Arv Z hd3 ad kd .char 8 [(.int r0), (.int r1), (.int r2), (.int r3), (.int (0 : Int32)), (.int (0 : Int32)), (.int (0 : Int32)), (.int (0 : Int32))] (.int 0) := by rw [nc br3] at Bd; exact Bd
    clear Bd
    have K3_ := Wd3
    refine Run.pure hK (seg := [(266, .aload 17, 2), (268, .iconst 4, 1), (269, .iload 4, 2), (271, .iconst 4, 1)]) (by decide +kernel) (pc' := 272) (L' := #[.val (.int i0), .val (.int i1), .val (.int i2), .val (.int i3), .val (.int i4), .val (.int c0), .val (.int c1), .val (.int c2), .val (.int (0 : Int32)), .val (.int (0 : Int32)), .val (.int (0 : Int32)), .val (.int (0 : Int32)), .val (.int cb), .val (.int q), .val (.int (Int32.ofNat (body q ([] : List Int32)).length)), .val (.int (Int32.ofNat (8 - (body q ([] : List Int32)).length))), .val (.int (Int32.ofNat lo)), .val (.ref ad), .unset, .unset]) (S' := [(.int (4 : Int32)), (.int i4), (.int (4 : Int32)), (.ref ad)]) rfl ?_
    refine Run.static hK (index := 21) (y := (⟨"com/example/libidem/libidem/http/KeyHeaderParsePinLaw", "blank", "(II)C"⟩ : MethodName)) (Wt := 2) (kc := 0) (ks := 0) (hw _ (List.mem_of_getElem? (i := 12) rfl)) (hw _ (List.mem_of_getElem? (i := 13) rfl)) (hw _ (List.mem_of_getElem? (i := 2) rfl)) (hw _ (List.mem_of_getElem? (i := 14) rfl)) (by decide) (W' := []) (fun _ q => nomatch q) (Ctr.cal (c_blk G i4 (4 : Int32) hd3) (hw _ (List.mem_of_getElem? (i := 14) rfl)) (hw _ (List.mem_of_getElem? (i := 2) rfl)) (by decide) (by decide)) rfl (argsL := [(.int i4), (.int (4 : Int32))]) (rest := [(.int (4 : Int32)), (.ref ad)]) (lenOf pd_blk rfl) rfl (Nat.le_of_ble_eq_true rfl) (by decide +kernel) (by decide) (by decide) (fun vf4 hf4 qf4 nf4 => ?_)
    obtain ⟨rfl, r4, rfl, bl4, br4⟩ := qf4
    refine Run.cst hK Ad ⟨by decide, by decide⟩ gdz (by decide +kernel) (fun hd4 Wd4 Bd => ?_)
    replace Ad : Arv Z hd4 ad kd .char 8 [(.int r0), (.int r1), (.int r2), (.int r3), (.int r4), (.int (0 : Int32)), (.int (0 : Int32)), (.int (0 : Int32))] (.int 0) := by rw [nc br4] at Bd; exact Bd
    clear Bd
    have K4_ := Wd4
    refine Run.pure hK (seg := [(276, .aload 17, 2), (278, .iconst 5, 1), (279, .iload 4, 2), (281, .iconst 5, 1)]) (by decide +kernel) (pc' := 282) (L' := #[.val (.int i0), .val (.int i1), .val (.int i2), .val (.int i3), .val (.int i4), .val (.int c0), .val (.int c1), .val (.int c2), .val (.int (0 : Int32)), .val (.int (0 : Int32)), .val (.int (0 : Int32)), .val (.int (0 : Int32)), .val (.int cb), .val (.int q), .val (.int (Int32.ofNat (body q ([] : List Int32)).length)), .val (.int (Int32.ofNat (8 - (body q ([] : List Int32)).length))), .val (.int (Int32.ofNat lo)), .val (.ref ad), .unset, .unset]) (S' := [(.int (5 : Int32)), (.int i4), (.int (5 : Int32)), (.ref ad)]) rfl ?_
    refine Run.static hK (index := 21) (y := (⟨"com/example/libidem/libidem/http/KeyHeaderParsePinLaw", "blank", "(II)C"⟩ : MethodName)) (Wt := 2) (kc := 0) (ks := 0) (hw _ (List.mem_of_getElem? (i := 12) rfl)) (hw _ (List.mem_of_getElem? (i := 13) rfl)) (hw _ (List.mem_of_getElem? (i := 2) rfl)) (hw _ (List.mem_of_getElem? (i := 14) rfl)) (by decide) (W' := []) (fun _ q => nomatch q) (Ctr.cal (c_blk G i4 (5 : Int32) hd4) (hw _ (List.mem_of_getElem? (i := 14) rfl)) (hw _ (List.mem_of_getElem? (i := 2) rfl)) (by decide) (by decide)) rfl (argsL := [(.int i4), (.int (5 : Int32))]) (rest := [(.int (5 : Int32)), (.ref ad)]) (lenOf pd_blk rfl) rfl (Nat.le_of_ble_eq_true rfl) (by decide +kernel) (by decide) (by decide) (fun vf5 hf5 qf5 nf5 => ?_)
    obtain ⟨rfl, r5, rfl, bl5, br5⟩ := qf5
    refine Run.cst hK Ad ⟨by decide, by decide⟩ gdz (by decide +kernel) (fun hd5 Wd5 Bd => ?_)
    replace Ad : Arv Z hd5 ad kd .char 8 [(.int r0), (.int r1), (.int r2), (.int r3), (.int r4), (.int r5), (.int (0 : Int32)), (.int (0 : Int32))] (.int 0) := by rw [nc br5] at Bd; exact Bd
    clear Bd
    have K5_ := Wd5
    refine Run.pure hK (seg := [(286, .aload 17, 2), (288, .bipush 6, 2), (290, .iload 4, 2), (292, .bipush 6, 2)]) (by decide +kernel) (pc' := 294) (L' := #[.val (.int i0), .val (.int i1), .val (.int i2), .val (.int i3), .val (.int i4), .val (.int c0), .val (.int c1), .val (.int c2), .val (.int (0 : Int32)), .val (.int (0 : Int32)), .val (.int (0 : Int32)), .val (.int (0 : Int32)), .val (.int cb), .val (.int q), .val (.int (Int32.ofNat (body q ([] : List Int32)).length)), .val (.int (Int32.ofNat (8 - (body q ([] : List Int32)).length))), .val (.int (Int32.ofNat lo)), .val (.ref ad), .unset, .unset]) (S' := [(.int (6 : Int32)), (.int i4), (.int (6 : Int32)), (.ref ad)]) rfl ?_
    refine Run.static hK (index := 21) (y := (⟨"com/example/libidem/libidem/http/KeyHeaderParsePinLaw", "blank", "(II)C"⟩ : MethodName)) (Wt := 2) (kc := 0) (ks := 0) (hw _ (List.mem_of_getElem? (i := 12) rfl)) (hw _ (List.mem_of_getElem? (i := 13) rfl)) (hw _ (List.mem_of_getElem? (i := 2) rfl)) (hw _ (List.mem_of_getElem? (i := 14) rfl)) (by decide) (W' := []) (fun _ q => nomatch q) (Ctr.cal (c_blk G i4 (6 : Int32) hd5) (hw _ (List.mem_of_getElem? (i := 14) rfl)) (hw _ (List.mem_of_getElem? (i := 2) rfl)) (by decide) (by decide)) rfl (argsL := [(.int i4), (.int (6 : Int32))]) (rest := [(.int (6 : Int32)), (.ref ad)]) (lenOf pd_blk rfl) rfl (Nat.le_of_ble_eq_true rfl) (by decide +kernel) (by decide) (by decide) (fun vf6 hf6 qf6 nf6 => ?_)
    obtain ⟨rfl, r6, rfl, bl6, br6⟩ := qf6
    refine Run.cst hK Ad ⟨by decide, by decide⟩ gdz (by decide +kernel) (fun hd6 Wd6 Bd => ?_)
    replace Ad : Arv Z hd6 ad kd .char 8 [(.int r0), (.int r1), (.int r2), (.int r3), (.int r4), (.int r5), (.int r6), (.int (0 : Int32))] (.int 0) := by rw [nc br6] at Bd; exact Bd
    clear Bd
    have K6_ := Wd6
    refine Run.pure hK (seg := [(298, .aload 17, 2), (300, .bipush 7, 2), (302, .iload 4, 2), (304, .bipush 7, 2)]) (by decide +kernel) (pc' := 306) (L' := #[.val (.int i0), .val (.int i1), .val (.int i2), .val (.int i3), .val (.int i4), .val (.int c0), .val (.int c1), .val (.int c2), .val (.int (0 : Int32)), .val (.int (0 : Int32)), .val (.int (0 : Int32)), .val (.int (0 : Int32)), .val (.int cb), .val (.int q), .val (.int (Int32.ofNat (body q ([] : List Int32)).length)), .val (.int (Int32.ofNat (8 - (body q ([] : List Int32)).length))), .val (.int (Int32.ofNat lo)), .val (.ref ad), .unset, .unset]) (S' := [(.int (7 : Int32)), (.int i4), (.int (7 : Int32)), (.ref ad)]) rfl ?_
    refine Run.static hK (index := 21) (y := (⟨"com/example/libidem/libidem/http/KeyHeaderParsePinLaw", "blank", "(II)C"⟩ : MethodName)) (Wt := 2) (kc := 0) (ks := 0) (hw _ (List.mem_of_getElem? (i := 12) rfl)) (hw _ (List.mem_of_getElem? (i := 13) rfl)) (hw _ (List.mem_of_getElem? (i := 2) rfl)) (hw _ (List.mem_of_getElem? (i := 14) rfl)) (by decide) (W' := []) (fun _ q => nomatch q) (Ctr.cal (c_blk G i4 (7 : Int32) hd6) (hw _ (List.mem_of_getElem? (i := 14) rfl)) (hw _ (List.mem_of_getElem? (i := 2) rfl)) (by decide) (by decide)) rfl (argsL := [(.int i4), (.int (7 : Int32))]) (rest := [(.int (7 : Int32)), (.ref ad)]) (lenOf pd_blk rfl) rfl (Nat.le_of_ble_eq_true rfl) (by decide +kernel) (by decide) (by decide) (fun vf7 hf7 qf7 nf7 => ?_)
    obtain ⟨rfl, r7, rfl, bl7, br7⟩ := qf7
    refine Run.cst hK Ad ⟨by decide, by decide⟩ gdz (by decide +kernel) (fun hd7 Wd7 Bd => ?_)
    replace Ad : Arv Z hd7 ad kd .char 8 [(.int r0), (.int r1), (.int r2), (.int r3), (.int r4), (.int r5), (.int r6), (.int r7)] (.int 0) := by rw [nc br7] at Bd; exact Bd
    clear Bd
    have K7_ := Wd7
    obtain ⟨Bl, e_Bl⟩ : ∃ z : List Int32, z = [r0, r1, r2, r3, r4, r5, r6, r7] := ⟨_, rfl⟩
    have hB : Bl.length = 8 := by rw [e_Bl]; rfl
    have hbr : ∀ c ∈ Bl, bl c ∧ ¬ c < 0 ∧ ¬ (255 : Int32) < c := fun c hc => by
      rw [e_Bl] at hc; simp only [List.mem_cons, List.not_mem_nil, or_false] at hc
      rcases hc with rfl | rfl | rfl | rfl | rfl | rfl | rfl | rfl
      · exact ⟨bl0, br0⟩
      · exact ⟨bl1, br1⟩
      · exact ⟨bl2, br2⟩
      · exact ⟨bl3, br3⟩
      · exact ⟨bl4, br4⟩
      · exact ⟨bl5, br5⟩
      · exact ⟨bl6, br6⟩
      · exact ⟨bl7, br7⟩
    have A0 : Arv Z hd7 ad kd .char 8 ((Sp Bl lo []).map Value.int) (.int 0) := by rw [Sp_nil, e_Bl]; exact Ad
    have hll : lo + (body q ([] : List Int32)).length ≤ 8 := by omega
    rw [body_pre] at hll
    refine Run.pure hK (seg := [(310, .iload 16, 2), (312, .istore 18, 2)]) (by decide +kernel) (pc' := 314) (L' := #[.val (.int i0), .val (.int i1), .val (.int i2), .val (.int i3), .val (.int i4), .val (.int c0), .val (.int c1), .val (.int c2), .val (.int (0 : Int32)), .val (.int (0 : Int32)), .val (.int (0 : Int32)), .val (.int (0 : Int32)), .val (.int cb), .val (.int q), .val (.int (Int32.ofNat (body q ([] : List Int32)).length)), .val (.int (Int32.ofNat (8 - (body q ([] : List Int32)).length))), .val (.int (Int32.ofNat lo)), .val (.ref ad), .val (.int (Int32.ofNat lo)), .unset]) (S' := []) rfl ?_
    suffices s329 : ∀ f1 : Heap, Arv Z f1 ad kd .char 8 ((Sp Bl lo (pre q)).map Value.int) (.int 0) → Run Z consts_1 false K (fun v h' => v = some (.int 1)) [] f1 1 8 329 #[.val (.int i0), .val (.int i1), .val (.int i2), .val (.int i3), .val (.int i4), .val (.int c0), .val (.int c1), .val (.int c2), .val (.int (0 : Int32)), .val (.int (0 : Int32)), .val (.int (0 : Int32)), .val (.int (0 : Int32)), .val (.int cb), .val (.int q), .val (.int (Int32.ofNat (body q ([] : List Int32)).length)), .val (.int (Int32.ofNat (8 - (body q ([] : List Int32)).length))), .val (.int (Int32.ofNat lo)), .val (.ref ad), .val (.int (Int32.ofNat (lo + (pre q).length))), .unset] [] by
      refine Run.pure hK (seg := [(314, .iload 13, 2)]) (by decide +kernel) (pc' := 316) (L' := #[.val (.int i0), .val (.int i1), .val (.int i2), .val (.int i3), .val (.int i4), .val (.int c0), .val (.int c1), .val (.int c2), .val (.int (0 : Int32)), .val (.int (0 : Int32)), .val (.int (0 : Int32)), .val (.int (0 : Int32)), .val (.int cb), .val (.int q), .val (.int (Int32.ofNat (body q ([] : List Int32)).length)), .val (.int (Int32.ofNat (8 - (body q ([] : List Int32)).length))), .val (.int (Int32.ofNat lo)), .val (.ref ad), .val (.int (Int32.ofNat lo)), .unset]) (S' := [(.int q)]) rfl ?_
      refine Run.ifz hK (cd := .eq) (o := 13) (by decide +kernel) (by decide) (pc' := 329) rfl (fun r1 => ?_) (fun r1 => ?_)
      · replace r1 := (h_eq _ _).1 r1
        have pq : pre q = [] := if_pos r1
        rw [pq] at s329
        exact s329 _ A0
      · replace r1 := (h_eq _ _).2 r1
        have pq : pre q = [34] := if_neg r1
        rw [pq] at s329 hll
        simp only [List.length_append, List.length_cons, List.length_nil] at hll
        refine Run.pure hK (seg := [(319, .aload 17, 2), (321, .iload 18, 2), (323, .bipush 34, 2)]) (by decide +kernel) (pc' := 325) (L' := #[.val (.int i0), .val (.int i1), .val (.int i2), .val (.int i3), .val (.int i4), .val (.int c0), .val (.int c1), .val (.int c2), .val (.int (0 : Int32)), .val (.int (0 : Int32)), .val (.int (0 : Int32)), .val (.int (0 : Int32)), .val (.int cb), .val (.int q), .val (.int (Int32.ofNat (body q ([] : List Int32)).length)), .val (.int (Int32.ofNat (8 - (body q ([] : List Int32)).length))), .val (.int (Int32.ofNat lo)), .val (.ref ad), .val (.int (Int32.ofNat lo)), .unset]) (S' := [(.int (34 : Int32)), (.int (Int32.ofNat lo)), (.ref ad)]) rfl ?_
        refine Run.cst hK A0 ⟨ofN_nn (by omega), by rw [Int32.lt_iff_toInt_lt, ofN (by omega), show (8 : Int32).toInt = 8 from rfl]; omega⟩ gdz (by decide +kernel) (fun hg Wg Bg => ?_)
        have Ag : Arv Z hg ad kd .char 8 ((Sp Bl lo ([] ++ [(34 : Int32)])).map Value.int) (.int 0) := by
          rw [← Sp_set (w := ([] : List Int32)) (by show lo + 0 < _; omega), List.map_set]; rw [ofN_nat (by omega : lo ≤ 4000)] at Bg
          exact Bg.pad (set_pad2 _ _ (by rw [List.length_map, Sp_len (by show lo + 0 ≤ _; omega)]; show lo + 0 < _; omega))
        refine Run.pure hK (seg := [(326, .iinc 18 1, 3)]) (by decide +kernel) (pc' := 329) (L' := #[.val (.int i0), .val (.int i1), .val (.int i2), .val (.int i3), .val (.int i4), .val (.int c0), .val (.int c1), .val (.int c2), .val (.int (0 : Int32)), .val (.int (0 : Int32)), .val (.int (0 : Int32)), .val (.int (0 : Int32)), .val (.int cb), .val (.int q), .val (.int (Int32.ofNat (body q ([] : List Int32)).length)), .val (.int (Int32.ofNat (8 - (body q ([] : List Int32)).length))), .val (.int (Int32.ofNat lo)), .val (.ref ad), .val (.int ((Int32.ofNat lo) + (1 : Int32))), .unset]) (S' := []) rfl ?_
        rw [show Int32.ofNat lo + (1 : Int32) = Int32.ofNat (lo + ([34] : List Int32).length) from ofN_add (n := lo) (m := 1) (by omega)]
        exact s329 _ Ag
    intro f1 A1
    refine Run.pure hK (seg := [(329, .aload 17, 2), (331, .iload 18, 2), (333, .iload 9, 2), (335, .iload 5, 2), (337, .iload 13, 2)]) (by decide +kernel) (pc' := 339) (L' := #[.val (.int i0), .val (.int i1), .val (.int i2), .val (.int i3), .val (.int i4), .val (.int c0), .val (.int c1), .val (.int c2), .val (.int (0 : Int32)), .val (.int (0 : Int32)), .val (.int (0 : Int32)), .val (.int (0 : Int32)), .val (.int cb), .val (.int q), .val (.int (Int32.ofNat (body q ([] : List Int32)).length)), .val (.int (Int32.ofNat (8 - (body q ([] : List Int32)).length))), .val (.int (Int32.ofNat lo)), .val (.ref ad), .val (.int (Int32.ofNat (lo + (pre q).length))), .unset]) (S' := [(.int q), (.int c0), (.int (0 : Int32)), (.int (Int32.ofNat (lo + (pre q).length))), (.ref ad)]) rfl ?_
    refine Run.static hK (index := 25) (y := (⟨"com/example/libidem/libidem/http/KeyHeaderParsePinLaw", "put", "([CIZCZ)I"⟩ : MethodName)) (Wt := 0) (kc := 0) (ks := 0) (hw _ (List.mem_of_getElem? (i := 15) rfl)) (hw _ (List.mem_of_getElem? (i := 16) rfl)) (hw _ (List.mem_of_getElem? (i := 2) rfl)) (hw _ (List.mem_of_getElem? (i := 17) rfl)) (by decide) (W' := []) (fun _ q => nomatch q) (Ctr.cal (c_put G ad (0 : Int32) c0 q lo f1 A1 gdz hB (by rw [if_pos (rfl : (0 : Int32) = 0), List.append_nil (pre q)]; have z := hll; simp only [List.length_append, List.length_nil, enc] at z ⊢; omega) (prt_in p0)) (hw _ (List.mem_of_getElem? (i := 17) rfl)) (hw _ (List.mem_of_getElem? (i := 2) rfl)) (by decide) (by decide)) rfl (argsL := [(.ref ad), (.int (Int32.ofNat (lo + (pre q).length))), (.int (0 : Int32)), (.int c0), (.int q)]) (rest := []) (lenOf pd_pt rfl) rfl (Nat.le_of_ble_eq_true rfl) (by decide +kernel) (by decide) (by decide) (fun vu0 hu0 qu0 nu0 => ?_)
    obtain ⟨rfl, Au0, Ku0⟩ := qu0
    rw [if_pos (rfl : (0 : Int32) = 0), List.append_nil (pre q)]
    rw [if_pos (rfl : (0 : Int32) = 0), List.append_nil (pre q)] at Au0
    refine Run.pure hK (seg := [(342, .istore 18, 2), (344, .aload 17, 2), (346, .iload 18, 2), (348, .iload 10, 2), (350, .iload 6, 2), (352, .iload 13, 2)]) (by decide +kernel) (pc' := 354) (L' := #[.val (.int i0), .val (.int i1), .val (.int i2), .val (.int i3), .val (.int i4), .val (.int c0), .val (.int c1), .val (.int c2), .val (.int (0 : Int32)), .val (.int (0 : Int32)), .val (.int (0 : Int32)), .val (.int (0 : Int32)), .val (.int cb), .val (.int q), .val (.int (Int32.ofNat (body q ([] : List Int32)).length)), .val (.int (Int32.ofNat (8 - (body q ([] : List Int32)).length))), .val (.int (Int32.ofNat lo)), .val (.ref ad), .val (.int (Int32.ofNat (lo + (pre q).length))), .unset]) (S' := [(.int q), (.int c1), (.int (0 : Int32)), (.int (Int32.ofNat (lo + (pre q).length))), (.ref ad)]) rfl ?_
    refine Run.static hK (index := 25) (y := (⟨"com/example/libidem/libidem/http/KeyHeaderParsePinLaw", "put", "([CIZCZ)I"⟩ : MethodName)) (Wt := 0) (kc := 0) (ks := 0) (hw _ (List.mem_of_getElem? (i := 15) rfl)) (hw _ (List.mem_of_getElem? (i := 16) rfl)) (hw _ (List.mem_of_getElem? (i := 2) rfl)) (hw _ (List.mem_of_getElem? (i := 17) rfl)) (by decide) (W' := []) (fun _ q => nomatch q) (Ctr.cal (c_put G ad (0 : Int32) c1 q lo hu0 Au0 gdz hB (by rw [if_pos (rfl : (0 : Int32) = 0), List.append_nil (pre q)]; have z := hll; simp only [List.length_append, List.length_nil, enc] at z ⊢; omega) (prt_in p1)) (hw _ (List.mem_of_getElem? (i := 17) rfl)) (hw _ (List.mem_of_getElem? (i := 2) rfl)) (by decide) (by decide)) rfl (argsL := [(.ref ad), (.int (Int32.ofNat (lo + (pre q).length))), (.int (0 : Int32)), (.int c1), (.int q)]) (rest := []) (lenOf pd_pt rfl) rfl (Nat.le_of_ble_eq_true rfl) (by decide +kernel) (by decide) (by decide) (fun vu1 hu1 qu1 nu1 => ?_)
    obtain ⟨rfl, Au1, Ku1⟩ := qu1
    rw [if_pos (rfl : (0 : Int32) = 0), List.append_nil (pre q)]
    rw [if_pos (rfl : (0 : Int32) = 0), List.append_nil (pre q)] at Au1
    refine Run.pure hK (seg := [(357, .istore 18, 2), (359, .aload 17, 2), (361, .iload 18, 2), (363, .iload 11, 2), (365, .iload 7, 2), (367, .iload 13, 2)]) (by decide +kernel) (pc' := 369) (L' := #[.val (.int i0), .val (.int i1), .val (.int i2), .val (.int i3), .val (.int i4), .val (.int c0), .val (.int c1), .val (.int c2), .val (.int (0 : Int32)), .val (.int (0 : Int32)), .val (.int (0 : Int32)), .val (.int (0 : Int32)), .val (.int cb), .val (.int q), .val (.int (Int32.ofNat (body q ([] : List Int32)).length)), .val (.int (Int32.ofNat (8 - (body q ([] : List Int32)).length))), .val (.int (Int32.ofNat lo)), .val (.ref ad), .val (.int (Int32.ofNat (lo + (pre q).length))), .unset]) (S' := [(.int q), (.int c2), (.int (0 : Int32)), (.int (Int32.ofNat (lo + (pre q).length))), (.ref ad)]) rfl ?_
    refine Run.static hK (index := 25) (y := (⟨"com/example/libidem/libidem/http/KeyHeaderParsePinLaw", "put", "([CIZCZ)I"⟩ : MethodName)) (Wt := 0) (kc := 0) (ks := 0) (hw _ (List.mem_of_getElem? (i := 15) rfl)) (hw _ (List.mem_of_getElem? (i := 16) rfl)) (hw _ (List.mem_of_getElem? (i := 2) rfl)) (hw _ (List.mem_of_getElem? (i := 17) rfl)) (by decide) (W' := []) (fun _ q => nomatch q) (Ctr.cal (c_put G ad (0 : Int32) c2 q lo hu1 Au1 gdz hB (by rw [if_pos (rfl : (0 : Int32) = 0), List.append_nil (pre q)]; have z := hll; simp only [List.length_append, List.length_nil, enc] at z ⊢; omega) (prt_in p2)) (hw _ (List.mem_of_getElem? (i := 17) rfl)) (hw _ (List.mem_of_getElem? (i := 2) rfl)) (by decide) (by decide)) rfl (argsL := [(.ref ad), (.int (Int32.ofNat (lo + (pre q).length))), (.int (0 : Int32)), (.int c2), (.int q)]) (rest := []) (lenOf pd_pt rfl) rfl (Nat.le_of_ble_eq_true rfl) (by decide +kernel) (by decide) (by decide) (fun vu2 hu2 qu2 nu2 => ?_)
    obtain ⟨rfl, Au2, Ku2⟩ := qu2
    rw [if_pos (rfl : (0 : Int32) = 0), List.append_nil (pre q)]
    rw [if_pos (rfl : (0 : Int32) = 0), List.append_nil (pre q)] at Au2
    have eW : (pre q) = (pre q ++ enc q ([] : List Int32)) := (List.append_nil _).symm
    rw [eW] at Au2
    refine Run.pure hK (seg := [(372, .istore 18, 2)]) (by decide +kernel) (pc' := 374) (L' := #[.val (.int i0), .val (.int i1), .val (.int i2), .val (.int i3), .val (.int i4), .val (.int c0), .val (.int c1), .val (.int c2), .val (.int (0 : Int32)), .val (.int (0 : Int32)), .val (.int (0 : Int32)), .val (.int (0 : Int32)), .val (.int cb), .val (.int q), .val (.int (Int32.ofNat (body q ([] : List Int32)).length)), .val (.int (Int32.ofNat (8 - (body q ([] : List Int32)).length))), .val (.int (Int32.ofNat lo)), .val (.ref ad), .val (.int (Int32.ofNat (lo + (pre q).length))), .unset]) (S' := []) rfl ?_
    rw [eW]
    suffices s389 : ∀ (f2 : Heap) (o18 : Slot), Arv Z f2 ad kd .char 8 ((Sp Bl lo (body q ([] : List Int32))).map Value.int) (.int 0) → Run Z consts_1 false K (fun v h' => v = some (.int 1)) [] f2 1 8 389 #[.val (.int i0), .val (.int i1), .val (.int i2), .val (.int i3), .val (.int i4), .val (.int c0), .val (.int c1), .val (.int c2), .val (.int (0 : Int32)), .val (.int (0 : Int32)), .val (.int (0 : Int32)), .val (.int (0 : Int32)), .val (.int cb), .val (.int q), .val (.int (Int32.ofNat (body q ([] : List Int32)).length)), .val (.int (Int32.ofNat (8 - (body q ([] : List Int32)).length))), .val (.int (Int32.ofNat lo)), .val (.ref ad), o18, .unset] [] by
      refine Run.pure hK (seg := [(374, .iload 13, 2)]) (by decide +kernel) (pc' := 376) (L' := #[.val (.int i0), .val (.int i1), .val (.int i2), .val (.int i3), .val (.int i4), .val (.int c0), .val (.int c1), .val (.int c2), .val (.int (0 : Int32)), .val (.int (0 : Int32)), .val (.int (0 : Int32)), .val (.int (0 : Int32)), .val (.int cb), .val (.int q), .val (.int (Int32.ofNat (body q ([] : List Int32)).length)), .val (.int (Int32.ofNat (8 - (body q ([] : List Int32)).length))), .val (.int (Int32.ofNat lo)), .val (.ref ad), .val (.int (Int32.ofNat (lo + (pre q ++ enc q ([] : List Int32)).length))), .unset]) (S' := [(.int q)]) rfl ?_
      refine Run.ifz hK (cd := .eq) (o := 13) (by decide +kernel) (by decide) (pc' := 389) rfl (fun r1 => ?_) (fun r1 => ?_)
      · replace r1 := (h_eq _ _).1 r1
        have pq : pre q = [] := if_pos r1
        have eb : body q ([] : List Int32) = (pre q ++ enc q ([] : List Int32)) := by rw [body_pre]; rw [pq, List.append_nil]
        have A9 : Arv Z hu2 ad kd .char 8 ((Sp Bl lo (body q ([] : List Int32))).map Value.int) (.int 0) := by rw [eb]; exact Au2
        exact s389 _ _ A9
      · replace r1 := (h_eq _ _).2 r1
        have pq : pre q = [34] := if_neg r1
        have eb : body q ([] : List Int32) = (pre q ++ enc q ([] : List Int32)) ++ [(34 : Int32)] := by rw [body_pre]; rw [show pre q = [34] from pq]
        have lw : lo + (pre q ++ enc q ([] : List Int32)).length < 8 := by rw [List.length_append] at hll; rw [pq] at hll; simp only [List.length_append, List.length_cons, List.length_nil] at hll ⊢; rw [pq]; simp only [List.length_cons, List.length_nil]; omega
        refine Run.pure hK (seg := [(379, .aload 17, 2), (381, .iload 18, 2), (383, .bipush 34, 2)]) (by decide +kernel) (pc' := 385) (L' := #[.val (.int i0), .val (.int i1), .val (.int i2), .val (.int i3), .val (.int i4), .val (.int c0), .val (.int c1), .val (.int c2), .val (.int (0 : Int32)), .val (.int (0 : Int32)), .val (.int (0 : Int32)), .val (.int (0 : Int32)), .val (.int cb), .val (.int q), .val (.int (Int32.ofNat (body q ([] : List Int32)).length)), .val (.int (Int32.ofNat (8 - (body q ([] : List Int32)).length))), .val (.int (Int32.ofNat lo)), .val (.ref ad), .val (.int (Int32.ofNat (lo + (pre q ++ enc q ([] : List Int32)).length))), .unset]) (S' := [(.int (34 : Int32)), (.int (Int32.ofNat (lo + (pre q ++ enc q ([] : List Int32)).length))), (.ref ad)]) rfl ?_
        refine Run.cst hK Au2 ⟨ofN_nn (by omega), by rw [Int32.lt_iff_toInt_lt, ofN (by omega), show (8 : Int32).toInt = 8 from rfl]; omega⟩ gdz (by decide +kernel) (fun hg Wg Bg => ?_)
        have Ag : Arv Z hg ad kd .char 8 ((Sp Bl lo ((pre q ++ enc q ([] : List Int32)) ++ [(34 : Int32)])).map Value.int) (.int 0) := by
          rw [← Sp_set (by omega), List.map_set]; rw [ofN_nat (by omega : lo + (pre q ++ enc q ([] : List Int32)).length ≤ 4000)] at Bg
          exact Bg.pad (set_pad2 _ _ (by rw [List.length_map, Sp_len (by omega)]; omega))
        refine Run.pure hK (seg := [(386, .iinc 18 1, 3)]) (by decide +kernel) (pc' := 389) (L' := #[.val (.int i0), .val (.int i1), .val (.int i2), .val (.int i3), .val (.int i4), .val (.int c0), .val (.int c1), .val (.int c2), .val (.int (0 : Int32)), .val (.int (0 : Int32)), .val (.int (0 : Int32)), .val (.int (0 : Int32)), .val (.int cb), .val (.int q), .val (.int (Int32.ofNat (body q ([] : List Int32)).length)), .val (.int (Int32.ofNat (8 - (body q ([] : List Int32)).length))), .val (.int (Int32.ofNat lo)), .val (.ref ad), .val (.int ((Int32.ofNat (lo + (pre q ++ enc q ([] : List Int32)).length)) + (1 : Int32))), .unset]) (S' := []) rfl ?_
        rw [← eb] at Ag
        exact s389 _ _ Ag
    intro f2 o18 A2
    rw [← body_pre] at hll
    refine Run.old (fun hO2 => ?_)
    refine Run.new hK (index := 29) (C := "java/lang/String") (n := 4) (hw _ (List.mem_of_getElem? (i := 18) rfl)) (hw _ (List.mem_of_getElem? (i := 19) rfl)) (hw _ (List.mem_of_getElem? (i := 20) rfl)) (by decide +kernel) (by decide) (by decide) (fun hs Es Xs Ds => ?_)
    obtain ⟨as_, zs⟩ : ∃ z, z = f2.size := ⟨_, rfl⟩
    rw [← zs]
    rw [← zs] at Xs Ds
    refine Run.pure hK (seg := [(392, .dup, 1), (393, .aload 17, 2)]) (by decide +kernel) (pc' := 395) (L' := #[.val (.int i0), .val (.int i1), .val (.int i2), .val (.int i3), .val (.int i4), .val (.int c0), .val (.int c1), .val (.int c2), .val (.int (0 : Int32)), .val (.int (0 : Int32)), .val (.int (0 : Int32)), .val (.int (0 : Int32)), .val (.int cb), .val (.int q), .val (.int (Int32.ofNat (body q ([] : List Int32)).length)), .val (.int (Int32.ofNat (8 - (body q ([] : List Int32)).length))), .val (.int (Int32.ofNat lo)), .val (.ref ad), o18, .unset]) (S' := [(.ref ad), (.ref as_), (.ref as_)]) rfl ?_
    have Vs := Ds (Or.inr (hw _ (List.mem_of_getElem? (i := 46) rfl))) (ty := .array .byte) (by decide)
    have Cs := Ds (Or.inr (hw _ (List.mem_of_getElem? (i := 44) rfl))) (ty := .byte) (by decide)
    have hSl : (Sp Bl lo (body q ([] : List Int32))).length = 8 := by rw [Sp_len (by omega)]; exact hB
    refine Run.special hK (index := 31) (y := (⟨"java/lang/String", "<init>", "([C)V"⟩ : MethodName)) (Wt := 1) (kc := 1) (ks := 8) rfl (hw _ (List.mem_of_getElem? (i := 21) rfl)) (hw _ (List.mem_of_getElem? (i := 22) rfl)) (hw _ (List.mem_of_getElem? (i := 23) rfl)) (by decide) (a := as_) (fun _ q => q) (Cal.more (kc' := 1) (ks' := 8) (cal_new1 (g_backV hw) (hw _ (List.mem_of_getElem? (i := 19) rfl)) (by rw [zs]; exact hO2.1) (List.mem_cons_self ..) Xs Vs Cs (A2.ext Es) O2 P5 (by rw [hSl]; rfl) (by omega) (by omega) (fun c hc => (Sp_mem hc).elim (fun z => (hbr c z).2) (fun z => body_in hk c z)) (by decide) (by decide)) (by decide) (by omega)) rfl (argsL := [(.ref ad)]) (rest := [(.ref as_)]) (lenOf pd_s1 rfl) rfl (Nat.le_of_ble_eq_true rfl) (by decide +kernel) (by decide) (by decide) (fun vj hj qj nj => ?_)
    obtain ⟨rfl, Fj, Kj⟩ := qj
    refine Run.static hK (index := 34) (y := (⟨"com/example/libidem/libidem/http/KeyHeader", "parse", "(Ljava/lang/String;)Ljava/lang/String;"⟩ : MethodName)) (Wt := 0) (kc := 8) (ks := 72) (hw _ (List.mem_of_getElem? (i := 47) rfl)) (hw _ (List.mem_of_getElem? (i := 48) rfl)) (hw _ (List.mem_of_getElem? (i := 49) rfl)) (hw _ (List.mem_of_getElem? (i := 50) rfl)) (by decide) (W' := []) (fun _ q => nomatch q) (Ctr.cal (c_par G as_ q lo hj Fj hB (fun c hc => (hbr c hc).1) (by omega) hk (by simp) hq) (hw _ (List.mem_of_getElem? (i := 50) rfl)) (hw _ (List.mem_of_getElem? (i := 49) rfl)) (by decide) (by decide)) rfl (argsL := [(.ref as_)]) (rest := []) (lenOf pd_ss rfl) rfl (Nat.le_of_ble_eq_true rfl) (by decide +kernel) (by decide) (by decide) (fun vP hP qP nP => ?_)
    obtain ⟨aP, rfl, FP⟩ := qP
    refine Run.pure hK (seg := [(401, .astore 19, 2), (403, .aload 19, 2)]) (by decide +kernel) (pc' := 405) (L' := #[.val (.int i0), .val (.int i1), .val (.int i2), .val (.int i3), .val (.int i4), .val (.int c0), .val (.int c1), .val (.int c2), .val (.int (0 : Int32)), .val (.int (0 : Int32)), .val (.int (0 : Int32)), .val (.int (0 : Int32)), .val (.int cb), .val (.int q), .val (.int (Int32.ofNat (body q ([] : List Int32)).length)), .val (.int (Int32.ofNat (8 - (body q ([] : List Int32)).length))), .val (.int (Int32.ofNat lo)), .val (.ref ad), o18, .val (.ref aP)]) (S' := [(.ref aP)]) rfl ?_
    refine Run.virtual hK (index := 40) (y := (⟨"java/lang/String", "length", "()I"⟩ : MethodName)) (z := (⟨"java/lang/String", "length", "()I"⟩ : MethodName)) (C := "java/lang/String") (Wt := 0) (kc := 0) (ks := 0) (hw _ (List.mem_of_getElem? (i := 213) rfl)) (hw _ (List.mem_of_getElem? (i := 52) rfl)) (nfS (hw _ (List.mem_of_getElem? (i := 54) rfl))) (hw _ (List.mem_of_getElem? (i := 54) rfl)) (hw _ (List.mem_of_getElem? (i := 53) rfl)) (by decide) (a := aP) FP.1 (fun _ q => q) (cal_len (g_lenW hw) (hw _ (List.mem_of_getElem? (i := 19) rfl)) FP O2 P5 (by decide) (by decide)) rfl (argsL := []) (rest := []) (lenOf pd_len rfl) rfl (Nat.le_of_ble_eq_true rfl) (by decide +kernel) (by decide) (by decide) (fun vL hL qL nL => ?_)
    obtain ⟨rfl, rfl⟩ := qL
    rw [show Int32.ofNat ([] : List Int32).length = (0 : Int32) from rfl]
    refine Run.pure hK (seg := [(408, .iload 8, 2)]) (by decide +kernel) (pc' := 410) (L' := #[.val (.int i0), .val (.int i1), .val (.int i2), .val (.int i3), .val (.int i4), .val (.int c0), .val (.int c1), .val (.int c2), .val (.int (0 : Int32)), .val (.int (0 : Int32)), .val (.int (0 : Int32)), .val (.int (0 : Int32)), .val (.int cb), .val (.int q), .val (.int (Int32.ofNat (body q ([] : List Int32)).length)), .val (.int (Int32.ofNat (8 - (body q ([] : List Int32)).length))), .val (.int (Int32.ofNat lo)), .val (.ref ad), o18, .val (.ref aP)]) (S' := [(.int (0 : Int32)), (.int (0 : Int32))]) rfl ?_
    refine Run.icmp hK (cd := .ne) (o := 55) (by decide +kernel) (by decide) (pc' := 465) rfl (fun q => by replace q := (h_ne _ _).1 q; exact absurd rfl q) (fun _ => ?_)
    refine Run.pure hK (seg := [(413, .iload 9, 2)]) (by decide +kernel) (pc' := 415) (L' := #[.val (.int i0), .val (.int i1), .val (.int i2), .val (.int i3), .val (.int i4), .val (.int c0), .val (.int c1), .val (.int c2), .val (.int (0 : Int32)), .val (.int (0 : Int32)), .val (.int (0 : Int32)), .val (.int (0 : Int32)), .val (.int cb), .val (.int q), .val (.int (Int32.ofNat (body q ([] : List Int32)).length)), .val (.int (Int32.ofNat (8 - (body q ([] : List Int32)).length))), .val (.int (Int32.ofNat lo)), .val (.ref ad), o18, .val (.ref aP)]) (S' := [(.int (0 : Int32))]) rfl ?_
    refine Run.ifz hK (cd := .eq) (o := 14) (by decide +kernel) (by decide) (pc' := 429) rfl (fun _ => ?_) (fun q => by replace q := (h_eq _ _).2 q; exact absurd rfl q)
    refine Run.pure hK (seg := [(429, .iload 10, 2)]) (by decide +kernel) (pc' := 431) (L' := #[.val (.int i0), .val (.int i1), .val (.int i2), .val (.int i3), .val (.int i4), .val (.int c0), .val (.int c1), .val (.int c2), .val (.int (0 : Int32)), .val (.int (0 : Int32)), .val (.int (0 : Int32)), .val (.int (0 : Int32)), .val (.int cb), .val (.int q), .val (.int (Int32.ofNat (body q ([] : List Int32)).length)), .val (.int (Int32.ofNat (8 - (body q ([] : List Int32)).length))), .val (.int (Int32.ofNat lo)), .val (.ref ad), o18, .val (.ref aP)]) (S' := [(.int (0 : Int32))]) rfl ?_
    refine Run.ifz hK (cd := .eq) (o := 14) (by decide +kernel) (by decide) (pc' := 445) rfl (fun _ => ?_) (fun q => by replace q := (h_eq _ _).2 q; exact absurd rfl q)
    refine Run.pure hK (seg := [(445, .iload 11, 2)]) (by decide +kernel) (pc' := 447) (L' := #[.val (.int i0), .val (.int i1), .val (.int i2), .val (.int i3), .val (.int i4), .val (.int c0), .val (.int c1), .val (.int c2), .val (.int (0 : Int32)), .val (.int (0 : Int32)), .val (.int (0 : Int32)), .val (.int (0 : Int32)), .val (.int cb), .val (.int q), .val (.int (Int32.ofNat (body q ([] : List Int32)).length)), .val (.int (Int32.ofNat (8 - (body q ([] : List Int32)).length))), .val (.int (Int32.ofNat lo)), .val (.ref ad), o18, .val (.ref aP)]) (S' := [(.int (0 : Int32))]) rfl ?_
    refine Run.ifz hK (cd := .eq) (o := 14) (by decide +kernel) (by decide) (pc' := 461) rfl (fun _ => ?_) (fun q => by replace q := (h_eq _ _).2 q; exact absurd rfl q)
    refine Run.pure hK (seg := [(461, .iconst 1, 1), (462, .goto 4, 3)]) (by decide +kernel) (pc' := 466) (L' := #[.val (.int i0), .val (.int i1), .val (.int i2), .val (.int i3), .val (.int i4), .val (.int c0), .val (.int c1), .val (.int c2), .val (.int (0 : Int32)), .val (.int (0 : Int32)), .val (.int (0 : Int32)), .val (.int (0 : Int32)), .val (.int cb), .val (.int q), .val (.int (Int32.ofNat (body q ([] : List Int32)).length)), .val (.int (Int32.ofNat (8 - (body q ([] : List Int32)).length))), .val (.int (Int32.ofNat lo)), .val (.ref ad), o18, .val (.ref aP)]) (S' := [(.int (1 : Int32))]) rfl ?_
    exact Run.retw hK (i := .ireturn) rfl (Or.inl ⟨rfl, Or.inr (Or.inl rfl), _, rfl⟩) (by decide +kernel) (by decide) (by decide) rfl
  · have hk : ∀ c ∈ ([c0] : List Int32), prt c := fun c hc => by cases List.mem_singleton.mp hc; exact p0
    refine Run.pure hK (seg := [(21, .istore 8, 2), (23, .iload 8, 2)]) (by decide +kernel) (pc' := 25) (L' := #[.val (.int i0), .val (.int i1), .val (.int i2), .val (.int i3), .val (.int i4), .val (.int c0), .val (.int c1), .val (.int c2), .val (.int (1 : Int32)), .unset, .unset, .unset, .unset, .unset, .unset, .unset, .unset, .unset, .unset, .unset]) (S' := [(.int (1 : Int32))]) rfl ?_
    refine Run.ifz hK (cd := .le) (o := 7) (by decide +kernel) (by decide) (pc' := 32) rfl (fun q => by replace q := (h_le _ _).1 q; exact absurd (by decide) q) (fun _ => ?_)
    refine Run.pure hK (seg := [(28, .iconst 1, 1), (29, .goto 4, 3)]) (by decide +kernel) (pc' := 33) (L' := #[.val (.int i0), .val (.int i1), .val (.int i2), .val (.int i3), .val (.int i4), .val (.int c0), .val (.int c1), .val (.int c2), .val (.int (1 : Int32)), .unset, .unset, .unset, .unset, .unset, .unset, .unset, .unset, .unset, .unset, .unset]) (S' := [(.int (1 : Int32))]) rfl ?_
    refine Run.pure hK (seg := [(33, .istore 9, 2), (35, .iload 8, 2), (37, .iconst 1, 1)]) (by decide +kernel) (pc' := 38) (L' := #[.val (.int i0), .val (.int i1), .val (.int i2), .val (.int i3), .val (.int i4), .val (.int c0), .val (.int c1), .val (.int c2), .val (.int (1 : Int32)), .val (.int (1 : Int32)), .unset, .unset, .unset, .unset, .unset, .unset, .unset, .unset, .unset, .unset]) (S' := [(.int (1 : Int32)), (.int (1 : Int32))]) rfl ?_
    refine Run.icmp hK (cd := .le) (o := 7) (by decide +kernel) (by decide) (pc' := 45) rfl (fun _ => ?_) (fun q => by replace q := (h_le _ _).2 q; exact absurd q (by decide))
    refine Run.pure hK (seg := [(45, .iconst 0, 1)]) (by decide +kernel) (pc' := 46) (L' := #[.val (.int i0), .val (.int i1), .val (.int i2), .val (.int i3), .val (.int i4), .val (.int c0), .val (.int c1), .val (.int c2), .val (.int (1 : Int32)), .val (.int (1 : Int32)), .unset, .unset, .unset, .unset, .unset, .unset, .unset, .unset, .unset, .unset]) (S' := [(.int (0 : Int32))]) rfl ?_
    refine Run.pure hK (seg := [(46, .istore 10, 2), (48, .iload 8, 2), (50, .iconst 2, 1)]) (by decide +kernel) (pc' := 51) (L' := #[.val (.int i0), .val (.int i1), .val (.int i2), .val (.int i3), .val (.int i4), .val (.int c0), .val (.int c1), .val (.int c2), .val (.int (1 : Int32)), .val (.int (1 : Int32)), .val (.int (0 : Int32)), .unset, .unset, .unset, .unset, .unset, .unset, .unset, .unset, .unset]) (S' := [(.int (2 : Int32)), (.int (1 : Int32))]) rfl ?_
    refine Run.icmp hK (cd := .le) (o := 7) (by decide +kernel) (by decide) (pc' := 58) rfl (fun _ => ?_) (fun q => by replace q := (h_le _ _).2 q; exact absurd q (by decide))
    refine Run.pure hK (seg := [(58, .iconst 0, 1)]) (by decide +kernel) (pc' := 59) (L' := #[.val (.int i0), .val (.int i1), .val (.int i2), .val (.int i3), .val (.int i4), .val (.int c0), .val (.int c1), .val (.int c2), .val (.int (1 : Int32)), .val (.int (1 : Int32)), .val (.int (0 : Int32)), .unset, .unset, .unset, .unset, .unset, .unset, .unset, .unset, .unset]) (S' := [(.int (0 : Int32))]) rfl ?_
    refine Run.pure hK (seg := [(59, .istore 11, 2), (61, .iload 9, 2)]) (by decide +kernel) (pc' := 63) (L' := #[.val (.int i0), .val (.int i1), .val (.int i2), .val (.int i3), .val (.int i4), .val (.int c0), .val (.int c1), .val (.int c2), .val (.int (1 : Int32)), .val (.int (1 : Int32)), .val (.int (0 : Int32)), .val (.int (0 : Int32)), .unset, .unset, .unset, .unset, .unset, .unset, .unset, .unset]) (S' := [(.int (1 : Int32))]) rfl ?_
    suffices s105 : ∀ cb : Int32, ((cb = 1 ∧ ∀ c ∈ ([c0] : List Int32), bok c) ∨ cb = 0) → Run Z consts_1 false K (fun v h' => v = some (.int 1)) [] hp2 0 0 105 #[.val (.int i0), .val (.int i1), .val (.int i2), .val (.int i3), .val (.int i4), .val (.int c0), .val (.int c1), .val (.int c2), .val (.int (1 : Int32)), .val (.int (1 : Int32)), .val (.int (0 : Int32)), .val (.int (0 : Int32)), .unset, .unset, .unset, .unset, .unset, .unset, .unset, .unset] [(.int cb)] by
      refine Run.ifz hK (cd := .eq) (o := 11) (by decide +kernel) (by decide) (pc' := 74) rfl (fun q => by replace q := (h_eq _ _).1 q; exact absurd q (by decide)) (fun _ => ?_)
      refine Run.pure hK (seg := [(66, .iload 5, 2)]) (by decide +kernel) (pc' := 68) (L' := #[.val (.int i0), .val (.int i1), .val (.int i2), .val (.int i3), .val (.int i4), .val (.int c0), .val (.int c1), .val (.int c2), .val (.int (1 : Int32)), .val (.int (1 : Int32)), .val (.int (0 : Int32)), .val (.int (0 : Int32)), .unset, .unset, .unset, .unset, .unset, .unset, .unset, .unset]) (S' := [(.int c0)]) rfl ?_
      refine Run.static hK (index := 18) (y := (⟨"com/example/libidem/libidem/http/KeyHeaderParsePinLaw", "bareOk", "(C)Z"⟩ : MethodName)) (Wt := 0) (kc := 0) (ks := 0) (hw _ (List.mem_of_getElem? (i := 5) rfl)) (hw _ (List.mem_of_getElem? (i := 6) rfl)) (hw _ (List.mem_of_getElem? (i := 2) rfl)) (hw _ (List.mem_of_getElem? (i := 7) rfl)) (by decide) (W' := []) (fun _ q => nomatch q) (Ctr.cal (c_bok G c0 hp2) (hw _ (List.mem_of_getElem? (i := 7) rfl)) (hw _ (List.mem_of_getElem? (i := 2) rfl)) (by decide) (by decide)) rfl (argsL := [(.int c0)]) (rest := []) (lenOf pd_cz rfl) rfl (Nat.le_of_ble_eq_true rfl) (by decide +kernel) (by decide) (by decide) (fun vb0 hb0 qb0 nb0 => ?_)
      obtain ⟨rfl, r0, rfl, hr0⟩ := qb0
      refine Run.ifz hK (cd := .eq) (o := 33) (by decide +kernel) (by decide) (pc' := 104) rfl (fun q => ?_) (fun q0 => ?_)
      · replace q := (h_eq _ _).1 q
        refine Run.pure hK (seg := [(104, .iconst 0, 1)]) (by decide +kernel) (pc' := 105) (L' := #[.val (.int i0), .val (.int i1), .val (.int i2), .val (.int i3), .val (.int i4), .val (.int c0), .val (.int c1), .val (.int c2), .val (.int (1 : Int32)), .val (.int (1 : Int32)), .val (.int (0 : Int32)), .val (.int (0 : Int32)), .unset, .unset, .unset, .unset, .unset, .unset, .unset, .unset]) (S' := [(.int (0 : Int32))]) rfl ?_
        exact s105 0 (Or.inr rfl)
      replace q0 := (h_eq _ _).2 q0
      have bk0 : bok c0 := by rcases hr0 with ⟨-, y⟩ | ⟨y, -⟩; exact y; exact absurd y q0
      refine Run.pure hK (seg := [(74, .iload 10, 2)]) (by decide +kernel) (pc' := 76) (L' := #[.val (.int i0), .val (.int i1), .val (.int i2), .val (.int i3), .val (.int i4), .val (.int c0), .val (.int c1), .val (.int c2), .val (.int (1 : Int32)), .val (.int (1 : Int32)), .val (.int (0 : Int32)), .val (.int (0 : Int32)), .unset, .unset, .unset, .unset, .unset, .unset, .unset, .unset]) (S' := [(.int (0 : Int32))]) rfl ?_
      refine Run.ifz hK (cd := .eq) (o := 11) (by decide +kernel) (by decide) (pc' := 87) rfl (fun _ => ?_) (fun q => by replace q := (h_eq _ _).2 q; exact absurd rfl q)
      refine Run.pure hK (seg := [(87, .iload 11, 2)]) (by decide +kernel) (pc' := 89) (L' := #[.val (.int i0), .val (.int i1), .val (.int i2), .val (.int i3), .val (.int i4), .val (.int c0), .val (.int c1), .val (.int c2), .val (.int (1 : Int32)), .val (.int (1 : Int32)), .val (.int (0 : Int32)), .val (.int (0 : Int32)), .unset, .unset, .unset, .unset, .unset, .unset, .unset, .unset]) (S' := [(.int (0 : Int32))]) rfl ?_
      refine Run.ifz hK (cd := .eq) (o := 11) (by decide +kernel) (by decide) (pc' := 100) rfl (fun _ => ?_) (fun q => by replace q := (h_eq _ _).2 q; exact absurd rfl q)
      refine Run.pure hK (seg := [(100, .iconst 1, 1), (101, .goto 4, 3)]) (by decide +kernel) (pc' := 105) (L' := #[.val (.int i0), .val (.int i1), .val (.int i2), .val (.int i3), .val (.int i4), .val (.int c0), .val (.int c1), .val (.int c2), .val (.int (1 : Int32)), .val (.int (1 : Int32)), .val (.int (0 : Int32)), .val (.int (0 : Int32)), .unset, .unset, .unset, .unset, .unset, .unset, .unset, .unset]) (S' := [(.int (1 : Int32))]) rfl ?_
      exact s105 1 (Or.inl ⟨rfl, fun c hc => by cases List.mem_singleton.mp hc; exact bk0⟩)
    intro cb hcb
    refine Run.pure hK (seg := [(105, .istore 12, 2), (107, .iload_n 3, 1), (108, .iconst 4, 1), (109, .iand, 1)]) (by decide +kernel) (pc' := 110) (L' := #[.val (.int i0), .val (.int i1), .val (.int i2), .val (.int i3), .val (.int i4), .val (.int c0), .val (.int c1), .val (.int c2), .val (.int (1 : Int32)), .val (.int (1 : Int32)), .val (.int (0 : Int32)), .val (.int (0 : Int32)), .val (.int cb), .unset, .unset, .unset, .unset, .unset, .unset, .unset]) (S' := [(.int (i3 &&& (4 : Int32)))]) rfl ?_
    suffices s123 : ∀ q : Int32, (q = 1 ∨ (q = 0 ∧ ∀ c ∈ ([c0] : List Int32), bok c)) → Run Z consts_1 false K (fun v h' => v = some (.int 1)) [] hp2 0 0 123 #[.val (.int i0), .val (.int i1), .val (.int i2), .val (.int i3), .val (.int i4), .val (.int c0), .val (.int c1), .val (.int c2), .val (.int (1 : Int32)), .val (.int (1 : Int32)), .val (.int (0 : Int32)), .val (.int (0 : Int32)), .val (.int cb), .unset, .unset, .unset, .unset, .unset, .unset, .unset] [(.int q)] by
      refine Run.ifz hK (cd := .ne) (o := 8) (by decide +kernel) (by decide) (pc' := 118) rfl (fun r1 => ?_) (fun r1 => ?_)
      · replace r1 := (h_ne _ _).1 r1
        refine Run.pure hK (seg := [(118, .iconst 1, 1), (119, .goto 4, 3)]) (by decide +kernel) (pc' := 123) (L' := #[.val (.int i0), .val (.int i1), .val (.int i2), .val (.int i3), .val (.int i4), .val (.int c0), .val (.int c1), .val (.int c2), .val (.int (1 : Int32)), .val (.int (1 : Int32)), .val (.int (0 : Int32)), .val (.int (0 : Int32)), .val (.int cb), .unset, .unset, .unset, .unset, .unset, .unset, .unset]) (S' := [(.int (1 : Int32))]) rfl ?_
        exact s123 1 (Or.inl rfl)
      · replace r1 := (h_ne _ _).2 r1
        refine Run.pure hK (seg := [(113, .iload 12, 2)]) (by decide +kernel) (pc' := 115) (L' := #[.val (.int i0), .val (.int i1), .val (.int i2), .val (.int i3), .val (.int i4), .val (.int c0), .val (.int c1), .val (.int c2), .val (.int (1 : Int32)), .val (.int (1 : Int32)), .val (.int (0 : Int32)), .val (.int (0 : Int32)), .val (.int cb), .unset, .unset, .unset, .unset, .unset, .unset, .unset]) (S' := [(.int cb)]) rfl ?_
        refine Run.ifz hK (cd := .ne) (o := 7) (by decide +kernel) (by decide) (pc' := 122) rfl (fun r2 => ?_) (fun r2 => ?_)
        · replace r2 := (h_ne _ _).1 r2
          refine Run.pure hK (seg := [(122, .iconst 0, 1)]) (by decide +kernel) (pc' := 123) (L' := #[.val (.int i0), .val (.int i1), .val (.int i2), .val (.int i3), .val (.int i4), .val (.int c0), .val (.int c1), .val (.int c2), .val (.int (1 : Int32)), .val (.int (1 : Int32)), .val (.int (0 : Int32)), .val (.int (0 : Int32)), .val (.int cb), .unset, .unset, .unset, .unset, .unset, .unset, .unset]) (S' := [(.int (0 : Int32))]) rfl ?_
          exact s123 0 (Or.inr ⟨rfl, by rcases hcb with ⟨-, y⟩ | y; exact y; exact absurd y r2⟩)
        · replace r2 := (h_ne _ _).2 r2
          refine Run.pure hK (seg := [(118, .iconst 1, 1), (119, .goto 4, 3)]) (by decide +kernel) (pc' := 123) (L' := #[.val (.int i0), .val (.int i1), .val (.int i2), .val (.int i3), .val (.int i4), .val (.int c0), .val (.int c1), .val (.int c2), .val (.int (1 : Int32)), .val (.int (1 : Int32)), .val (.int (0 : Int32)), .val (.int (0 : Int32)), .val (.int cb), .unset, .unset, .unset, .unset, .unset, .unset, .unset]) (S' := [(.int (1 : Int32))]) rfl ?_
          exact s123 1 (Or.inl rfl)
    intro q hq
    refine Run.pure hK (seg := [(123, .istore 13, 2)]) (by decide +kernel) (pc' := 125) (L' := #[.val (.int i0), .val (.int i1), .val (.int i2), .val (.int i3), .val (.int i4), .val (.int c0), .val (.int c1), .val (.int c2), .val (.int (1 : Int32)), .val (.int (1 : Int32)), .val (.int (0 : Int32)), .val (.int (0 : Int32)), .val (.int cb), .val (.int q), .unset, .unset, .unset, .unset, .unset, .unset]) (S' := []) rfl ?_
    suffices s200 : (body q ([c0] : List Int32)).length ≤ 8 → Run Z consts_1 false K (fun v h' => v = some (.int 1)) [] hp2 0 0 200 #[.val (.int i0), .val (.int i1), .val (.int i2), .val (.int i3), .val (.int i4), .val (.int c0), .val (.int c1), .val (.int c2), .val (.int (1 : Int32)), .val (.int (1 : Int32)), .val (.int (0 : Int32)), .val (.int (0 : Int32)), .val (.int cb), .val (.int q), .val (.int (Int32.ofNat (body q ([c0] : List Int32)).length)), .unset, .unset, .unset, .unset, .unset] [] by
      rcases hq with rfl | ⟨rfl, -⟩
      · refine Run.pure hK (seg := [(125, .iload 13, 2)]) (by decide +kernel) (pc' := 127) (L' := #[.val (.int i0), .val (.int i1), .val (.int i2), .val (.int i3), .val (.int i4), .val (.int c0), .val (.int c1), .val (.int c2), .val (.int (1 : Int32)), .val (.int (1 : Int32)), .val (.int (0 : Int32)), .val (.int (0 : Int32)), .val (.int cb), .val (.int (1 : Int32)), .unset, .unset, .unset, .unset, .unset, .unset]) (S' := [(.int (1 : Int32))]) rfl ?_
        refine Run.ifz hK (cd := .eq) (o := 69) (by decide +kernel) (by decide) (pc' := 196) rfl (fun q => by replace q := (h_eq _ _).1 q; exact absurd q (by decide)) (fun _ => ?_)
        refine Run.pure hK (seg := [(130, .iconst 2, 1), (131, .iload 8, 2), (133, .iadd, 1), (134, .iload 9, 2)]) (by decide +kernel) (pc' := 136) (L' := #[.val (.int i0), .val (.int i1), .val (.int i2), .val (.int i3), .val (.int i4), .val (.int c0), .val (.int c1), .val (.int c2), .val (.int (1 : Int32)), .val (.int (1 : Int32)), .val (.int (0 : Int32)), .val (.int (0 : Int32)), .val (.int cb), .val (.int (1 : Int32)), .unset, .unset, .unset, .unset, .unset, .unset]) (S' := [(.int (1 : Int32)), (.int ((2 : Int32) + (1 : Int32)))]) rfl ?_
        suffices t0 : ∀ E0 : Int32, ((E0 = 1 ∧ (c0 = 34 ∨ c0 = 92)) ∨ (E0 = 0 ∧ ¬ (c0 = 34 ∨ c0 = 92))) → Run Z consts_1 false K (fun v h' => v = some (.int 1)) [] hp2 0 0 152 #[.val (.int i0), .val (.int i1), .val (.int i2), .val (.int i3), .val (.int i4), .val (.int c0), .val (.int c1), .val (.int c2), .val (.int (1 : Int32)), .val (.int (1 : Int32)), .val (.int (0 : Int32)), .val (.int (0 : Int32)), .val (.int cb), .val (.int (1 : Int32)), .unset, .unset, .unset, .unset, .unset, .unset] [(.int E0), (.int ((2 : Int32) + (1 : Int32)))] by
          refine Run.ifz hK (cd := .eq) (o := 15) (by decide +kernel) (by decide) (pc' := 151) rfl (fun q => by replace q := (h_eq _ _).1 q; exact absurd q (by decide)) (fun _ => ?_)
          refine Run.pure hK (seg := [(139, .iload 5, 2)]) (by decide +kernel) (pc' := 141) (L' := #[.val (.int i0), .val (.int i1), .val (.int i2), .val (.int i3), .val (.int i4), .val (.int c0), .val (.int c1), .val (.int c2), .val (.int (1 : Int32)), .val (.int (1 : Int32)), .val (.int (0 : Int32)), .val (.int (0 : Int32)), .val (.int cb), .val (.int (1 : Int32)), .unset, .unset, .unset, .unset, .unset, .unset]) (S' := [(.int c0), (.int ((2 : Int32) + (1 : Int32)))]) rfl ?_
          refine Run.static hK (index := 8) (y := (⟨"com/example/libidem/libidem/http/KeyHeaderParsePinLaw", "esc", "(C)Z"⟩ : MethodName)) (Wt := 1) (kc := 0) (ks := 0) (hw _ (List.mem_of_getElem? (i := 8) rfl)) (hw _ (List.mem_of_getElem? (i := 9) rfl)) (hw _ (List.mem_of_getElem? (i := 2) rfl)) (hw _ (List.mem_of_getElem? (i := 10) rfl)) (by decide) (W' := []) (fun _ q => nomatch q) (Ctr.cal (c_esc G c0 hp2) (hw _ (List.mem_of_getElem? (i := 10) rfl)) (hw _ (List.mem_of_getElem? (i := 2) rfl)) (by decide) (by decide)) rfl (argsL := [(.int c0)]) (rest := [(.int ((2 : Int32) + (1 : Int32)))]) (lenOf pd_cz rfl) rfl (Nat.le_of_ble_eq_true rfl) (by decide +kernel) (by decide) (by decide) (fun ve0 he0 qe0 ne0 => ?_)
          obtain ⟨rfl, r, rfl, hr⟩ := qe0
          rcases hr with ⟨rfl, hr⟩ | ⟨rfl, hr⟩
          · refine Run.ifz hK (cd := .eq) (o := 7) (by decide +kernel) (by decide) (pc' := 151) rfl (fun q => by replace q := (h_eq _ _).1 q; exact absurd q (by decide)) (fun _ => ?_)
            refine Run.pure hK (seg := [(147, .iconst 1, 1), (148, .goto 4, 3)]) (by decide +kernel) (pc' := 152) (L' := #[.val (.int i0), .val (.int i1), .val (.int i2), .val (.int i3), .val (.int i4), .val (.int c0), .val (.int c1), .val (.int c2), .val (.int (1 : Int32)), .val (.int (1 : Int32)), .val (.int (0 : Int32)), .val (.int (0 : Int32)), .val (.int cb), .val (.int (1 : Int32)), .unset, .unset, .unset, .unset, .unset, .unset]) (S' := [(.int (1 : Int32)), (.int ((2 : Int32) + (1 : Int32)))]) rfl ?_
            exact t0 1 (Or.inl ⟨rfl, hr⟩)
          · refine Run.ifz hK (cd := .eq) (o := 7) (by decide +kernel) (by decide) (pc' := 151) rfl (fun _ => ?_) (fun q => by replace q := (h_eq _ _).2 q; exact absurd rfl q)
            refine Run.pure hK (seg := [(151, .iconst 0, 1)]) (by decide +kernel) (pc' := 152) (L' := #[.val (.int i0), .val (.int i1), .val (.int i2), .val (.int i3), .val (.int i4), .val (.int c0), .val (.int c1), .val (.int c2), .val (.int (1 : Int32)), .val (.int (1 : Int32)), .val (.int (0 : Int32)), .val (.int (0 : Int32)), .val (.int cb), .val (.int (1 : Int32)), .unset, .unset, .unset, .unset, .unset, .unset]) (S' := [(.int (0 : Int32)), (.int ((2 : Int32) + (1 : Int32)))]) rfl ?_
            exact t0 0 (Or.inr ⟨rfl, hr⟩)
        intro E0 hE0
        obtain ⟨m0, rfl, hm0, hb0⟩ := e1_len hE0
        refine Run.pure hK (seg := [(152, .iadd, 1), (153, .iload 10, 2)]) (by decide +kernel) (pc' := 155) (L' := #[.val (.int i0), .val (.int i1), .val (.int i2), .val (.int i3), .val (.int i4), .val (.int c0), .val (.int c1), .val (.int c2), .val (.int (1 : Int32)), .val (.int (1 : Int32)), .val (.int (0 : Int32)), .val (.int (0 : Int32)), .val (.int cb), .val (.int (1 : Int32)), .unset, .unset, .unset, .unset, .unset, .unset]) (S' := [(.int (0 : Int32)), (.int (((2 : Int32) + (1 : Int32)) + (Int32.ofNat m0)))]) rfl ?_
        refine Run.ifz hK (cd := .eq) (o := 15) (by decide +kernel) (by decide) (pc' := 170) rfl (fun _ => ?_) (fun q => by replace q := (h_eq _ _).2 q; exact absurd rfl q)
        refine Run.pure hK (seg := [(170, .iconst 0, 1)]) (by decide +kernel) (pc' := 171) (L' := #[.val (.int i0), .val (.int i1), .val (.int i2), .val (.int i3), .val (.int i4), .val (.int c0), .val (.int c1), .val (.int c2), .val (.int (1 : Int32)), .val (.int (1 : Int32)), .val (.int (0 : Int32)), .val (.int (0 : Int32)), .val (.int cb), .val (.int (1 : Int32)), .unset, .unset, .unset, .unset, .unset, .unset]) (S' := [(.int (0 : Int32)), (.int (((2 : Int32) + (1 : Int32)) + (Int32.ofNat m0)))]) rfl ?_
        refine Run.pure hK (seg := [(171, .iadd, 1), (172, .iload 11, 2)]) (by decide +kernel) (pc' := 174) (L' := #[.val (.int i0), .val (.int i1), .val (.int i2), .val (.int i3), .val (.int i4), .val (.int c0), .val (.int c1), .val (.int c2), .val (.int (1 : Int32)), .val (.int (1 : Int32)), .val (.int (0 : Int32)), .val (.int (0 : Int32)), .val (.int cb), .val (.int (1 : Int32)), .unset, .unset, .unset, .unset, .unset, .unset]) (S' := [(.int (0 : Int32)), (.int ((((2 : Int32) + (1 : Int32)) + (Int32.ofNat m0)) + (0 : Int32)))]) rfl ?_
        refine Run.ifz hK (cd := .eq) (o := 15) (by decide +kernel) (by decide) (pc' := 189) rfl (fun _ => ?_) (fun q => by replace q := (h_eq _ _).2 q; exact absurd rfl q)
        refine Run.pure hK (seg := [(189, .iconst 0, 1)]) (by decide +kernel) (pc' := 190) (L' := #[.val (.int i0), .val (.int i1), .val (.int i2), .val (.int i3), .val (.int i4), .val (.int c0), .val (.int c1), .val (.int c2), .val (.int (1 : Int32)), .val (.int (1 : Int32)), .val (.int (0 : Int32)), .val (.int (0 : Int32)), .val (.int cb), .val (.int (1 : Int32)), .unset, .unset, .unset, .unset, .unset, .unset]) (S' := [(.int (0 : Int32)), (.int ((((2 : Int32) + (1 : Int32)) + (Int32.ofNat m0)) + (0 : Int32)))]) rfl ?_
        refine Run.pure hK (seg := [(190, .iadd, 1)]) (by decide +kernel) (pc' := 191) (L' := #[.val (.int i0), .val (.int i1), .val (.int i2), .val (.int i3), .val (.int i4), .val (.int c0), .val (.int c1), .val (.int c2), .val (.int (1 : Int32)), .val (.int (1 : Int32)), .val (.int (0 : Int32)), .val (.int (0 : Int32)), .val (.int cb), .val (.int (1 : Int32)), .unset, .unset, .unset, .unset, .unset, .unset]) (S' := [(.int (((((2 : Int32) + (1 : Int32)) + (Int32.ofNat m0)) + (0 : Int32)) + (0 : Int32)))]) rfl ?_
        have bl1 : (body 1 ([c0] : List Int32)).length = 3 + m0 := by
          rw [q_len]
          show (e1 1 c0 ++ (([] : List Int32))).length + 2 = _
          simp only [List.length_append, List.length_nil, hm0]
          omega
        have el : (((((2 : Int32) + (1 : Int32)) + (Int32.ofNat m0)) + (0 : Int32)) + (0 : Int32)) = Int32.ofNat (body 1 ([c0] : List Int32)).length := by
          rw [bl1]
          show (((2 : Int32) + (1 : Int32)) + Int32.ofNat m0 + (0 : Int32) + (0 : Int32)) = _
          rw [show (2 : Int32) + (1 : Int32) = Int32.ofNat 3 from rfl, ofN_add (by omega)]
          simp only [show (0 : Int32) = Int32.ofNat 0 from rfl]
          rw [ofN_add (by omega), ofN_add (by omega)]
          congr 1
        rw [el]
        refine Run.pure hK (seg := [(191, .istore 14, 2), (193, .goto 7, 3)]) (by decide +kernel) (pc' := 200) (L' := #[.val (.int i0), .val (.int i1), .val (.int i2), .val (.int i3), .val (.int i4), .val (.int c0), .val (.int c1), .val (.int c2), .val (.int (1 : Int32)), .val (.int (1 : Int32)), .val (.int (0 : Int32)), .val (.int (0 : Int32)), .val (.int cb), .val (.int (1 : Int32)), .val (.int (Int32.ofNat (body 1 ([c0] : List Int32)).length)), .unset, .unset, .unset, .unset, .unset]) (S' := []) rfl ?_
        exact s200 (by omega)
      · refine Run.pure hK (seg := [(125, .iload 13, 2)]) (by decide +kernel) (pc' := 127) (L' := #[.val (.int i0), .val (.int i1), .val (.int i2), .val (.int i3), .val (.int i4), .val (.int c0), .val (.int c1), .val (.int c2), .val (.int (1 : Int32)), .val (.int (1 : Int32)), .val (.int (0 : Int32)), .val (.int (0 : Int32)), .val (.int cb), .val (.int (0 : Int32)), .unset, .unset, .unset, .unset, .unset, .unset]) (S' := [(.int (0 : Int32))]) rfl ?_
        refine Run.ifz hK (cd := .eq) (o := 69) (by decide +kernel) (by decide) (pc' := 196) rfl (fun _ => ?_) (fun q => by replace q := (h_eq _ _).2 q; exact absurd rfl q)
        refine Run.pure hK (seg := [(196, .iload 8, 2), (198, .istore 14, 2)]) (by decide +kernel) (pc' := 200) (L' := #[.val (.int i0), .val (.int i1), .val (.int i2), .val (.int i3), .val (.int i4), .val (.int c0), .val (.int c1), .val (.int c2), .val (.int (1 : Int32)), .val (.int (1 : Int32)), .val (.int (0 : Int32)), .val (.int (0 : Int32)), .val (.int cb), .val (.int (0 : Int32)), .val (.int (1 : Int32)), .unset, .unset, .unset, .unset, .unset]) (S' := []) rfl ?_
        exact s200 (by show ([c0] : List Int32).length ≤ 8; simp)
    intro hb8
    refine Run.pure hK (seg := [(200, .bipush 8, 2), (202, .iload 14, 2), (204, .isub, 1)]) (by decide +kernel) (pc' := 205) (L' := #[.val (.int i0), .val (.int i1), .val (.int i2), .val (.int i3), .val (.int i4), .val (.int c0), .val (.int c1), .val (.int c2), .val (.int (1 : Int32)), .val (.int (1 : Int32)), .val (.int (0 : Int32)), .val (.int (0 : Int32)), .val (.int cb), .val (.int q), .val (.int (Int32.ofNat (body q ([c0] : List Int32)).length)), .unset, .unset, .unset, .unset, .unset]) (S' := [(.int ((8 : Int32) - (Int32.ofNat (body q ([c0] : List Int32)).length)))]) rfl ?_
    rw [show (8 : Int32) - Int32.ofNat (body q ([c0] : List Int32)).length = Int32.ofNat (8 - (body q ([c0] : List Int32)).length) from ofN_sub (n := 8) (by omega) hb8]
    refine Run.pure hK (seg := [(205, .istore 15, 2), (207, .iload_n 3, 1), (208, .iconst 3, 1), (209, .iushr, 1), (210, .bipush 15, 2), (212, .iand, 1), (213, .iload 15, 2), (215, .iconst 1, 1), (216, .iadd, 1)]) (by decide +kernel) (pc' := 217) (L' := #[.val (.int i0), .val (.int i1), .val (.int i2), .val (.int i3), .val (.int i4), .val (.int c0), .val (.int c1), .val (.int c2), .val (.int (1 : Int32)), .val (.int (1 : Int32)), .val (.int (0 : Int32)), .val (.int (0 : Int32)), .val (.int cb), .val (.int q), .val (.int (Int32.ofNat (body q ([c0] : List Int32)).length)), .val (.int (Int32.ofNat (8 - (body q ([c0] : List Int32)).length))), .unset, .unset, .unset, .unset]) (S' := [(.int ((Int32.ofNat (8 - (body q ([c0] : List Int32)).length)) + (1 : Int32))), (.int ((XT.ushr i3 (3 : Int32)) &&& (15 : Int32)))]) rfl ?_
    obtain ⟨lo, e_l, hl8⟩ := rem_le (x := XT.ushr i3 3) (p := 8 - (body q ([c0] : List Int32)).length) (by omega)
    refine Run.irem hK (by decide +kernel) (fun z => by have y := congrArg Int32.toInt z; rw [show Int32.ofNat (8 - (body q ([c0] : List Int32)).length) + (1 : Int32) = Int32.ofNat (8 - (body q ([c0] : List Int32)).length + 1) from ofN_add (n := 8 - (body q ([c0] : List Int32)).length) (m := 1) (by omega), ofN (by omega), tI0] at y; omega) ?_
    rw [e_l]
    refine Run.pure hK (seg := [(218, .istore 16, 2), (220, .bipush 8, 2)]) (by decide +kernel) (pc' := 222) (L' := #[.val (.int i0), .val (.int i1), .val (.int i2), .val (.int i3), .val (.int i4), .val (.int c0), .val (.int c1), .val (.int c2), .val (.int (1 : Int32)), .val (.int (1 : Int32)), .val (.int (0 : Int32)), .val (.int (0 : Int32)), .val (.int cb), .val (.int q), .val (.int (Int32.ofNat (body q ([c0] : List Int32)).length)), .val (.int (Int32.ofNat (8 - (body q ([c0] : List Int32)).length))), .val (.int (Int32.ofNat lo)), .unset, .unset, .unset]) (S' := [(.int (8 : Int32))]) rfl ?_
    refine Run.newarr hK (aty := .char) (hw _ (List.mem_of_getElem? (i := 11) rfl)) (by decide +kernel) (by decide) (cap := 8) (by decide) (by decide) (by decide) (by decide) (fun hd kd Ed Ad => ?_)
    obtain ⟨ad, zd⟩ : ∃ z, z = hp2.size := ⟨_, rfl⟩
    rw [← zd]
    rw [← zd] at Ad
    have gd : hp2.size ≤ ad := by rw [zd]; exact Nat.le_refl _
    have gdz := Nat.le_trans hO.1 gd
    refine Run.less (W' := []) ?_ (fun _ q => nomatch q)
    refine Run.pure hK (seg := [(224, .astore 17, 2), (226, .aload 17, 2), (228, .iconst 0, 1), (229, .iload 4, 2), (231, .iconst 0, 1)]) (by decide +kernel) (pc' := 232) (L' := #[.val (.int i0), .val (.int i1), .val (.int i2), .val (.int i3), .val (.int i4), .val (.int c0), .val (.int c1), .val (.int c2), .val (.int (1 : Int32)), .val (.int (1 : Int32)), .val (.int (0 : Int32)), .val (.int (0 : Int32)), .val (.int cb), .val (.int q), .val (.int (Int32.ofNat (body q ([c0] : List Int32)).length)), .val (.int (Int32.ofNat (8 - (body q ([c0] : List Int32)).length))), .val (.int (Int32.ofNat lo)), .val (.ref ad), .unset, .unset]) (S' := [(.int (0 : Int32)), (.int i4), (.int (0 : Int32)), (.ref ad)]) rfl ?_
    refine Run.static hK (index := 21) (y := (⟨"com/example/libidem/libidem/http/KeyHeaderParsePinLaw", "blank", "(II)C"⟩ : MethodName)) (Wt := 2) (kc := 0) (ks := 0) (hw _ (List.mem_of_getElem? (i := 12) rfl)) (hw _ (List.mem_of_getElem? (i := 13) rfl)) (hw _ (List.mem_of_getElem? (i := 2) rfl)) (hw _ (List.mem_of_getElem? (i := 14) rfl)) (by decide) (W' := []) (fun _ q => nomatch q) (Ctr.cal (c_blk G i4 (0 : Int32) hd) (hw _ (List.mem_of_getElem? (i := 14) rfl)) (hw _ (List.mem_of_getElem? (i := 2) rfl)) (by decide) (by decide)) rfl (argsL := [(.int i4), (.int (0 : Int32))]) (rest := [(.int (0 : Int32)), (.ref ad)]) (lenOf pd_blk rfl) rfl (Nat.le_of_ble_eq_true rfl) (by decide +kernel) (by decide) (by decide) (fun vf0 hf0 qf0 nf0 => ?_)
    obtain ⟨rfl, r0, rfl, bl0, br0⟩ := qf0
    refine Run.cst hK Ad ⟨by decide, by decide⟩ gdz (by decide +kernel) (fun hd0 Wd0 Bd => ?_)
    replace Ad : Arv Z hd0 ad kd .char 8 [(.int r0), (.int (0 : Int32)), (.int (0 : Int32)), (.int (0 : Int32)), (.int (0 : Int32)), (.int (0 : Int32)), (.int (0 : Int32)), (.int (0 : Int32))] (.int 0) := by rw [nc br0] at Bd; exact Bd
    clear Bd
    have K0_ := Wd0
    refine Run.pure hK (seg := [(236, .aload 17, 2), (238, .iconst 1, 1), (239, .iload 4, 2), (241, .iconst 1, 1)]) (by decide +kernel) (pc' := 242) (L' := #[.val (.int i0), .val (.int i1), .val (.int i2), .val (.int i3), .val (.int i4), .val (.int c0), .val (.int c1), .val (.int c2), .val (.int (1 : Int32)), .val (.int (1 : Int32)), .val (.int (0 : Int32)), .val (.int (0 : Int32)), .val (.int cb), .val (.int q), .val (.int (Int32.ofNat (body q ([c0] : List Int32)).length)), .val (.int (Int32.ofNat (8 - (body q ([c0] : List Int32)).length))), .val (.int (Int32.ofNat lo)), .val (.ref ad), .unset, .unset]) (S' := [(.int (1 : Int32)), (.int i4), (.int (1 : Int32)), (.ref ad)]) rfl ?_
    refine Run.static hK (index := 21) (y := (⟨"com/example/libidem/libidem/http/KeyHeaderParsePinLaw", "blank", "(II)C"⟩ : MethodName)) (Wt := 2) (kc := 0) (ks := 0) (hw _ (List.mem_of_getElem? (i := 12) rfl)) (hw _ (List.mem_of_getElem? (i := 13) rfl)) (hw _ (List.mem_of_getElem? (i := 2) rfl)) (hw _ (List.mem_of_getElem? (i := 14) rfl)) (by decide) (W' := []) (fun _ q => nomatch q) (Ctr.cal (c_blk G i4 (1 : Int32) hd0) (hw _ (List.mem_of_getElem? (i := 14) rfl)) (hw _ (List.mem_of_getElem? (i := 2) rfl)) (by decide) (by decide)) rfl (argsL := [(.int i4), (.int (1 : Int32))]) (rest := [(.int (1 : Int32)), (.ref ad)]) (lenOf pd_blk rfl) rfl (Nat.le_of_ble_eq_true rfl) (by decide +kernel) (by decide) (by decide) (fun vf1 hf1 qf1 nf1 => ?_)
    obtain ⟨rfl, r1, rfl, bl1, br1⟩ := qf1
    refine Run.cst hK Ad ⟨by decide, by decide⟩ gdz (by decide +kernel) (fun hd1 Wd1 Bd => ?_)
    replace Ad : Arv Z hd1 ad kd .char 8 [(.int r0), (.int r1), (.int (0 : Int32)), (.int (0 : Int32)), (.int (0 : Int32)), (.int (0 : Int32)), (.int (0 : Int32)), (.int (0 : Int32))] (.int 0) := by rw [nc br1] at Bd; exact Bd
    clear Bd
    have K1_ := Wd1
    refine Run.pure hK (seg := [(246, .aload 17, 2), (248, .iconst 2, 1), (249, .iload 4, 2), (251, .iconst 2, 1)]) (by decide +kernel) (pc' := 252) (L' := #[.val (.int i0), .val (.int i1), .val (.int i2), .val (.int i3), .val (.int i4), .val (.int c0), .val (.int c1), .val (.int c2), .val (.int (1 : Int32)), .val (.int (1 : Int32)), .val (.int (0 : Int32)), .val (.int (0 : Int32)), .val (.int cb), .val (.int q), .val (.int (Int32.ofNat (body q ([c0] : List Int32)).length)), .val (.int (Int32.ofNat (8 - (body q ([c0] : List Int32)).length))), .val (.int (Int32.ofNat lo)), .val (.ref ad), .unset, .unset]) (S' := [(.int (2 : Int32)), (.int i4), (.int (2 : Int32)), (.ref ad)]) rfl ?_
    refine Run.static hK (index := 21) (y := (⟨"com/example/libidem/libidem/http/KeyHeaderParsePinLaw", "blank", "(II)C"⟩ : MethodName)) (Wt := 2) (kc := 0) (ks := 0) (hw _ (List.mem_of_getElem? (i := 12) rfl)) (hw _ (List.mem_of_getElem? (i := 13) rfl)) (hw _ (List.mem_of_getElem? (i := 2) rfl)) (hw _ (List.mem_of_getElem? (i := 14) rfl)) (by decide) (W' := []) (fun _ q => nomatch q) (Ctr.cal (c_blk G i4 (2 : Int32) hd1) (hw _ (List.mem_of_getElem? (i := 14) rfl)) (hw _ (List.mem_of_getElem? (i := 2) rfl)) (by decide) (by decide)) rfl (argsL := [(.int i4), (.int (2 : Int32))]) (rest := [(.int (2 : Int32)), (.ref ad)]) (lenOf pd_blk rfl) rfl (Nat.le_of_ble_eq_true rfl) (by decide +kernel) (by decide) (by decide) (fun vf2 hf2 qf2 nf2 => ?_)
    obtain ⟨rfl, r2, rfl, bl2, br2⟩ := qf2
    refine Run.cst hK Ad ⟨by decide, by decide⟩ gdz (by decide +kernel) (fun hd2 Wd2 Bd => ?_)
    replace Ad : Arv Z hd2 ad kd .char 8 [(.int r0), (.int r1), (.int r2), (.int (0 : Int32)), (.int (0 : Int32)), (.int (0 : Int32)), (.int (0 : Int32)), (.int (0 : Int32))] (.int 0) := by rw [nc br2] at Bd; exact Bd
    clear Bd
    have K2_ := Wd2
    refine Run.pure hK (seg := [(256, .aload 17, 2), (258, .iconst 3, 1), (259, .iload 4, 2), (261, .iconst 3, 1)]) (by decide +kernel) (pc' := 262) (L' := #[.val (.int i0), .val (.int i1), .val (.int i2), .val (.int i3), .val (.int i4), .val (.int c0), .val (.int c1), .val (.int c2), .val (.int (1 : Int32)), .val (.int (1 : Int32)), .val (.int (0 : Int32)), .val (.int (0 : Int32)), .val (.int cb), .val (.int q), .val (.int (Int32.ofNat (body q ([c0] : List Int32)).length)), .val (.int (Int32.ofNat (8 - (body q ([c0] : List Int32)).length))), .val (.int (Int32.ofNat lo)), .val (.ref ad), .unset, .unset]) (S' := [(.int (3 : Int32)), (.int i4), (.int (3 : Int32)), (.ref ad)]) rfl ?_
    refine Run.static hK (index := 21) (y := (⟨"com/example/libidem/libidem/http/KeyHeaderParsePinLaw", "blank", "(II)C"⟩ : MethodName)) (Wt := 2) (kc := 0) (ks := 0) (hw _ (List.mem_of_getElem? (i := 12) rfl)) (hw _ (List.mem_of_getElem? (i := 13) rfl)) (hw _ (List.mem_of_getElem? (i := 2) rfl)) (hw _ (List.mem_of_getElem? (i := 14) rfl)) (by decide) (W' := []) (fun _ q => nomatch q) (Ctr.cal (c_blk G i4 (3 : Int32) hd2) (hw _ (List.mem_of_getElem? (i := 14) rfl)) (hw _ (List.mem_of_getElem? (i := 2) rfl)) (by decide) (by decide)) rfl (argsL := [(.int i4), (.int (3 : Int32))]) (rest := [(.int (3 : Int32)), (.ref ad)]) (lenOf pd_blk rfl) rfl (Nat.le_of_ble_eq_true rfl) (by decide +kernel) (by decide) (by decide) (fun vf3 hf3 qf3 nf3 => ?_)
    obtain ⟨rfl, r3, rfl, bl3, br3⟩ := qf3
    refine Run.cst hK Ad ⟨by decide, by decide⟩ gdz (by decide +kernel) (fun hd3 Wd3 Bd => ?_)
    replace Ad : Arv Z hd3 ad kd .char 8 [(.int r0), (.int r1), (.int r2), (.int r3), (.int (0 : Int32)), (.int (0 : Int32)), (.int (0 : Int32)), (.int (0 : Int32))] (.int 0) := by rw [nc br3] at Bd; exact Bd
    clear Bd
    have K3_ := Wd3
    refine Run.pure hK (seg := [(266, .aload 17, 2), (268, .iconst 4, 1), (269, .iload 4, 2), (271, .iconst 4, 1)]) (by decide +kernel) (pc' := 272) (L' := #[.val (.int i0), .val (.int i1), .val (.int i2), .val (.int i3), .val (.int i4), .val (.int c0), .val (.int c1), .val (.int c2), .val (.int (1 : Int32)), .val (.int (1 : Int32)), .val (.int (0 : Int32)), .val (.int (0 : Int32)), .val (.int cb), .val (.int q), .val (.int (Int32.ofNat (body q ([c0] : List Int32)).length)), .val (.int (Int32.ofNat (8 - (body q ([c0] : List Int32)).length))), .val (.int (Int32.ofNat lo)), .val (.ref ad), .unset, .unset]) (S' := [(.int (4 : Int32)), (.int i4), (.int (4 : Int32)), (.ref ad)]) rfl ?_
    refine Run.static hK (index := 21) (y := (⟨"com/example/libidem/libidem/http/KeyHeaderParsePinLaw", "blank", "(II)C"⟩ : MethodName)) (Wt := 2) (kc := 0) (ks := 0) (hw _ (List.mem_of_getElem? (i := 12) rfl)) (hw _ (List.mem_of_getElem? (i := 13) rfl)) (hw _ (List.mem_of_getElem? (i := 2) rfl)) (hw _ (List.mem_of_getElem? (i := 14) rfl)) (by decide) (W' := []) (fun _ q => nomatch q) (Ctr.cal (c_blk G i4 (4 : Int32) hd3) (hw _ (List.mem_of_getElem? (i := 14) rfl)) (hw _ (List.mem_of_getElem? (i := 2) rfl)) (by decide) (by decide)) rfl (argsL := [(.int i4), (.int (4 : Int32))]) (rest := [(.int (4 : Int32)), (.ref ad)]) (lenOf pd_blk rfl) rfl (Nat.le_of_ble_eq_true rfl) (by decide +kernel) (by decide) (by decide) (fun vf4 hf4 qf4 nf4 => ?_)
    obtain ⟨rfl, r4, rfl, bl4, br4⟩ := qf4
    refine Run.cst hK Ad ⟨by decide, by decide⟩ gdz (by decide +kernel) (fun hd4 Wd4 Bd => ?_)
    replace Ad : Arv Z hd4 ad kd .char 8 [(.int r0), (.int r1), (.int r2), (.int r3), (.int r4), (.int (0 : Int32)), (.int (0 : Int32)), (.int (0 : Int32))] (.int 0) := by rw [nc br4] at Bd; exact Bd
    clear Bd
    have K4_ := Wd4
    refine Run.pure hK (seg := [(276, .aload 17, 2), (278, .iconst 5, 1), (279, .iload 4, 2), (281, .iconst 5, 1)]) (by decide +kernel) (pc' := 282) (L' := #[.val (.int i0), .val (.int i1), .val (.int i2), .val (.int i3), .val (.int i4), .val (.int c0), .val (.int c1), .val (.int c2), .val (.int (1 : Int32)), .val (.int (1 : Int32)), .val (.int (0 : Int32)), .val (.int (0 : Int32)), .val (.int cb), .val (.int q), .val (.int (Int32.ofNat (body q ([c0] : List Int32)).length)), .val (.int (Int32.ofNat (8 - (body q ([c0] : List Int32)).length))), .val (.int (Int32.ofNat lo)), .val (.ref ad), .unset, .unset]) (S' := [(.int (5 : Int32)), (.int i4), (.int (5 : Int32)), (.ref ad)]) rfl ?_
    refine Run.static hK (index := 21) (y := (⟨"com/example/libidem/libidem/http/KeyHeaderParsePinLaw", "blank", "(II)C"⟩ : MethodName)) (Wt := 2) (kc := 0) (ks := 0) (hw _ (List.mem_of_getElem? (i := 12) rfl)) (hw _ (List.mem_of_getElem? (i := 13) rfl)) (hw _ (List.mem_of_getElem? (i := 2) rfl)) (hw _ (List.mem_of_getElem? (i := 14) rfl)) (by decide) (W' := []) (fun _ q => nomatch q) (Ctr.cal (c_blk G i4 (5 : Int32) hd4) (hw _ (List.mem_of_getElem? (i := 14) rfl)) (hw _ (List.mem_of_getElem? (i := 2) rfl)) (by decide) (by decide)) rfl (argsL := [(.int i4), (.int (5 : Int32))]) (rest := [(.int (5 : Int32)), (.ref ad)]) (lenOf pd_blk rfl) rfl (Nat.le_of_ble_eq_true rfl) (by decide +kernel) (by decide) (by decide) (fun vf5 hf5 qf5 nf5 => ?_)
    obtain ⟨rfl, r5, rfl, bl5, br5⟩ := qf5
    refine Run.cst hK Ad ⟨by decide, by decide⟩ gdz (by decide +kernel) (fun hd5 Wd5 Bd => ?_)
    replace Ad : Arv Z hd5 ad kd .char 8 [(.int r0), (.int r1), (.int r2), (.int r3), (.int r4), (.int r5), (.int (0 : Int32)), (.int (0 : Int32))] (.int 0) := by rw [nc br5] at Bd; exact Bd
    clear Bd
    have K5_ := Wd5
    refine Run.pure hK (seg := [(286, .aload 17, 2), (288, .bipush 6, 2), (290, .iload 4, 2), (292, .bipush 6, 2)]) (by decide +kernel) (pc' := 294) (L' := #[.val (.int i0), .val (.int i1), .val (.int i2), .val (.int i3), .val (.int i4), .val (.int c0), .val (.int c1), .val (.int c2), .val (.int (1 : Int32)), .val (.int (1 : Int32)), .val (.int (0 : Int32)), .val (.int (0 : Int32)), .val (.int cb), .val (.int q), .val (.int (Int32.ofNat (body q ([c0] : List Int32)).length)), .val (.int (Int32.ofNat (8 - (body q ([c0] : List Int32)).length))), .val (.int (Int32.ofNat lo)), .val (.ref ad), .unset, .unset]) (S' := [(.int (6 : Int32)), (.int i4), (.int (6 : Int32)), (.ref ad)]) rfl ?_
    refine Run.static hK (index := 21) (y := (⟨"com/example/libidem/libidem/http/KeyHeaderParsePinLaw", "blank", "(II)C"⟩ : MethodName)) (Wt := 2) (kc := 0) (ks := 0) (hw _ (List.mem_of_getElem? (i := 12) rfl)) (hw _ (List.mem_of_getElem? (i := 13) rfl)) (hw _ (List.mem_of_getElem? (i := 2) rfl)) (hw _ (List.mem_of_getElem? (i := 14) rfl)) (by decide) (W' := []) (fun _ q => nomatch q) (Ctr.cal (c_blk G i4 (6 : Int32) hd5) (hw _ (List.mem_of_getElem? (i := 14) rfl)) (hw _ (List.mem_of_getElem? (i := 2) rfl)) (by decide) (by decide)) rfl (argsL := [(.int i4), (.int (6 : Int32))]) (rest := [(.int (6 : Int32)), (.ref ad)]) (lenOf pd_blk rfl) rfl (Nat.le_of_ble_eq_true rfl) (by decide +kernel) (by decide) (by decide) (fun vf6 hf6 qf6 nf6 => ?_)
    obtain ⟨rfl, r6, rfl, bl6, br6⟩ := qf6
    refine Run.cst hK Ad ⟨by decide, by decide⟩ gdz (by decide +kernel) (fun hd6 Wd6 Bd => ?_)
    replace Ad : Arv Z hd6 ad kd .char 8 [(.int r0), (.int r1), (.int r2), (.int r3), (.int r4), (.int r5), (.int r6), (.int (0 : Int32))] (.int 0) := by rw [nc br6] at Bd; exact Bd
    clear Bd
    have K6_ := Wd6
    refine Run.pure hK (seg := [(298, .aload 17, 2), (300, .bipush 7, 2), (302, .iload 4, 2), (304, .bipush 7, 2)]) (by decide +kernel) (pc' := 306) (L' := #[.val (.int i0), .val (.int i1), .val (.int i2), .val (.int i3), .val (.int i4), .val (.int c0), .val (.int c1), .val (.int c2), .val (.int (1 : Int32)), .val (.int (1 : Int32)), .val (.int (0 : Int32)), .val (.int (0 : Int32)), .val (.int cb), .val (.int q), .val (.int (Int32.ofNat (body q ([c0] : List Int32)).length)), .val (.int (Int32.ofNat (8 - (body q ([c0] : List Int32)).length))), .val (.int (Int32.ofNat lo)), .val (.ref ad), .unset, .unset]) (S' := [(.int (7 : Int32)), (.int i4), (.int (7 : Int32)), (.ref ad)]) rfl ?_
    refine Run.static hK (index := 21) (y := (⟨"com/example/libidem/libidem/http/KeyHeaderParsePinLaw", "blank", "(II)C"⟩ : MethodName)) (Wt := 2) (kc := 0) (ks := 0) (hw _ (List.mem_of_getElem? (i := 12) rfl)) (hw _ (List.mem_of_getElem? (i := 13) rfl)) (hw _ (List.mem_of_getElem? (i := 2) rfl)) (hw _ (List.mem_of_getElem? (i := 14) rfl)) (by decide) (W' := []) (fun _ q => nomatch q) (Ctr.cal (c_blk G i4 (7 : Int32) hd6) (hw _ (List.mem_of_getElem? (i := 14) rfl)) (hw _ (List.mem_of_getElem? (i := 2) rfl)) (by decide) (by decide)) rfl (argsL := [(.int i4), (.int (7 : Int32))]) (rest := [(.int (7 : Int32)), (.ref ad)]) (lenOf pd_blk rfl) rfl (Nat.le_of_ble_eq_true rfl) (by decide +kernel) (by decide) (by decide) (fun vf7 hf7 qf7 nf7 => ?_)
    obtain ⟨rfl, r7, rfl, bl7, br7⟩ := qf7
    refine Run.cst hK Ad ⟨by decide, by decide⟩ gdz (by decide +kernel) (fun hd7 Wd7 Bd => ?_)
    replace Ad : Arv Z hd7 ad kd .char 8 [(.int r0), (.int r1), (.int r2), (.int r3), (.int r4), (.int r5), (.int r6), (.int r7)] (.int 0) := by rw [nc br7] at Bd; exact Bd
    clear Bd
    have K7_ := Wd7
    obtain ⟨Bl, e_Bl⟩ : ∃ z : List Int32, z = [r0, r1, r2, r3, r4, r5, r6, r7] := ⟨_, rfl⟩
    have hB : Bl.length = 8 := by rw [e_Bl]; rfl
    have hbr : ∀ c ∈ Bl, bl c ∧ ¬ c < 0 ∧ ¬ (255 : Int32) < c := fun c hc => by
      rw [e_Bl] at hc; simp only [List.mem_cons, List.not_mem_nil, or_false] at hc
      rcases hc with rfl | rfl | rfl | rfl | rfl | rfl | rfl | rfl
      · exact ⟨bl0, br0⟩
      · exact ⟨bl1, br1⟩
      · exact ⟨bl2, br2⟩
      · exact ⟨bl3, br3⟩
      · exact ⟨bl4, br4⟩
      · exact ⟨bl5, br5⟩
      · exact ⟨bl6, br6⟩
      · exact ⟨bl7, br7⟩
    have A0 : Arv Z hd7 ad kd .char 8 ((Sp Bl lo []).map Value.int) (.int 0) := by rw [Sp_nil, e_Bl]; exact Ad
    have hll : lo + (body q ([c0] : List Int32)).length ≤ 8 := by omega
    rw [body_pre] at hll
    refine Run.pure hK (seg := [(310, .iload 16, 2), (312, .istore 18, 2)]) (by decide +kernel) (pc' := 314) (L' := #[.val (.int i0), .val (.int i1), .val (.int i2), .val (.int i3), .val (.int i4), .val (.int c0), .val (.int c1), .val (.int c2), .val (.int (1 : Int32)), .val (.int (1 : Int32)), .val (.int (0 : Int32)), .val (.int (0 : Int32)), .val (.int cb), .val (.int q), .val (.int (Int32.ofNat (body q ([c0] : List Int32)).length)), .val (.int (Int32.ofNat (8 - (body q ([c0] : List Int32)).length))), .val (.int (Int32.ofNat lo)), .val (.ref ad), .val (.int (Int32.ofNat lo)), .unset]) (S' := []) rfl ?_
    suffices s329 : ∀ f1 : Heap, Arv Z f1 ad kd .char 8 ((Sp Bl lo (pre q)).map Value.int) (.int 0) → Run Z consts_1 false K (fun v h' => v = some (.int 1)) [] f1 1 8 329 #[.val (.int i0), .val (.int i1), .val (.int i2), .val (.int i3), .val (.int i4), .val (.int c0), .val (.int c1), .val (.int c2), .val (.int (1 : Int32)), .val (.int (1 : Int32)), .val (.int (0 : Int32)), .val (.int (0 : Int32)), .val (.int cb), .val (.int q), .val (.int (Int32.ofNat (body q ([c0] : List Int32)).length)), .val (.int (Int32.ofNat (8 - (body q ([c0] : List Int32)).length))), .val (.int (Int32.ofNat lo)), .val (.ref ad), .val (.int (Int32.ofNat (lo + (pre q).length))), .unset] [] by
      refine Run.pure hK (seg := [(314, .iload 13, 2)]) (by decide +kernel) (pc' := 316) (L' := #[.val (.int i0), .val (.int i1), .val (.int i2), .val (.int i3), .val (.int i4), .val (.int c0), .val (.int c1), .val (.int c2), .val (.int (1 : Int32)), .val (.int (1 : Int32)), .val (.int (0 : Int32)), .val (.int (0 : Int32)), .val (.int cb), .val (.int q), .val (.int (Int32.ofNat (body q ([c0] : List Int32)).length)), .val (.int (Int32.ofNat (8 - (body q ([c0] : List Int32)).length))), .val (.int (Int32.ofNat lo)), .val (.ref ad), .val (.int (Int32.ofNat lo)), .unset]) (S' := [(.int q)]) rfl ?_
      refine Run.ifz hK (cd := .eq) (o := 13) (by decide +kernel) (by decide) (pc' := 329) rfl (fun r1 => ?_) (fun r1 => ?_)
      · replace r1 := (h_eq _ _).1 r1
        have pq : pre q = [] := if_pos r1
        rw [pq] at s329
        exact s329 _ A0
      · replace r1 := (h_eq _ _).2 r1
        have pq : pre q = [34] := if_neg r1
        rw [pq] at s329 hll
        simp only [List.length_append, List.length_cons, List.length_nil] at hll
        refine Run.pure hK (seg := [(319, .aload 17, 2), (321, .iload 18, 2), (323, .bipush 34, 2)]) (by decide +kernel) (pc' := 325) (L' := #[.val (.int i0), .val (.int i1), .val (.int i2), .val (.int i3), .val (.int i4), .val (.int c0), .val (.int c1), .val (.int c2), .val (.int (1 : Int32)), .val (.int (1 : Int32)), .val (.int (0 : Int32)), .val (.int (0 : Int32)), .val (.int cb), .val (.int q), .val (.int (Int32.ofNat (body q ([c0] : List Int32)).length)), .val (.int (Int32.ofNat (8 - (body q ([c0] : List Int32)).length))), .val (.int (Int32.ofNat lo)), .val (.ref ad), .val (.int (Int32.ofNat lo)), .unset]) (S' := [(.int (34 : Int32)), (.int (Int32.ofNat lo)), (.ref ad)]) rfl ?_
        refine Run.cst hK A0 ⟨ofN_nn (by omega), by rw [Int32.lt_iff_toInt_lt, ofN (by omega), show (8 : Int32).toInt = 8 from rfl]; omega⟩ gdz (by decide +kernel) (fun hg Wg Bg => ?_)
        have Ag : Arv Z hg ad kd .char 8 ((Sp Bl lo ([] ++ [(34 : Int32)])).map Value.int) (.int 0) := by
          rw [← Sp_set (w := ([] : List Int32)) (by show lo + 0 < _; omega), List.map_set]; rw [ofN_nat (by omega : lo ≤ 4000)] at Bg
          exact Bg.pad (set_pad2 _ _ (by rw [List.length_map, Sp_len (by show lo + 0 ≤ _; omega)]; show lo + 0 < _; omega))
        refine Run.pure hK (seg := [(326, .iinc 18 1, 3)]) (by decide +kernel) (pc' := 329) (L' := #[.val (.int i0), .val (.int i1), .val (.int i2), .val (.int i3), .val (.int i4), .val (.int c0), .val (.int c1), .val (.int c2), .val (.int (1 : Int32)), .val (.int (1 : Int32)), .val (.int (0 : Int32)), .val (.int (0 : Int32)), .val (.int cb), .val (.int q), .val (.int (Int32.ofNat (body q ([c0] : List Int32)).length)), .val (.int (Int32.ofNat (8 - (body q ([c0] : List Int32)).length))), .val (.int (Int32.ofNat lo)), .val (.ref ad), .val (.int ((Int32.ofNat lo) + (1 : Int32))), .unset]) (S' := []) rfl ?_
        rw [show Int32.ofNat lo + (1 : Int32) = Int32.ofNat (lo + ([34] : List Int32).length) from ofN_add (n := lo) (m := 1) (by omega)]
        exact s329 _ Ag
    intro f1 A1
    refine Run.pure hK (seg := [(329, .aload 17, 2), (331, .iload 18, 2), (333, .iload 9, 2), (335, .iload 5, 2), (337, .iload 13, 2)]) (by decide +kernel) (pc' := 339) (L' := #[.val (.int i0), .val (.int i1), .val (.int i2), .val (.int i3), .val (.int i4), .val (.int c0), .val (.int c1), .val (.int c2), .val (.int (1 : Int32)), .val (.int (1 : Int32)), .val (.int (0 : Int32)), .val (.int (0 : Int32)), .val (.int cb), .val (.int q), .val (.int (Int32.ofNat (body q ([c0] : List Int32)).length)), .val (.int (Int32.ofNat (8 - (body q ([c0] : List Int32)).length))), .val (.int (Int32.ofNat lo)), .val (.ref ad), .val (.int (Int32.ofNat (lo + (pre q).length))), .unset]) (S' := [(.int q), (.int c0), (.int (1 : Int32)), (.int (Int32.ofNat (lo + (pre q).length))), (.ref ad)]) rfl ?_
    refine Run.static hK (index := 25) (y := (⟨"com/example/libidem/libidem/http/KeyHeaderParsePinLaw", "put", "([CIZCZ)I"⟩ : MethodName)) (Wt := 0) (kc := 0) (ks := 0) (hw _ (List.mem_of_getElem? (i := 15) rfl)) (hw _ (List.mem_of_getElem? (i := 16) rfl)) (hw _ (List.mem_of_getElem? (i := 2) rfl)) (hw _ (List.mem_of_getElem? (i := 17) rfl)) (by decide) (W' := []) (fun _ q => nomatch q) (Ctr.cal (c_put G ad (1 : Int32) c0 q lo f1 A1 gdz hB (by rw [if_neg (by decide : ¬ (1 : Int32) = 0)]; have z := hll; simp only [List.length_append, List.length_nil, enc] at z ⊢; omega) (prt_in p0)) (hw _ (List.mem_of_getElem? (i := 17) rfl)) (hw _ (List.mem_of_getElem? (i := 2) rfl)) (by decide) (by decide)) rfl (argsL := [(.ref ad), (.int (Int32.ofNat (lo + (pre q).length))), (.int (1 : Int32)), (.int c0), (.int q)]) (rest := []) (lenOf pd_pt rfl) rfl (Nat.le_of_ble_eq_true rfl) (by decide +kernel) (by decide) (by decide) (fun vu0 hu0 qu0 nu0 => ?_)
    obtain ⟨rfl, Au0, Ku0⟩ := qu0
    rw [if_neg (by decide : ¬ (1 : Int32) = 0)]
    rw [if_neg (by decide : ¬ (1 : Int32) = 0)] at Au0
    refine Run.pure hK (seg := [(342, .istore 18, 2), (344, .aload 17, 2), (346, .iload 18, 2), (348, .iload 10, 2), (350, .iload 6, 2), (352, .iload 13, 2)]) (by decide +kernel) (pc' := 354) (L' := #[.val (.int i0), .val (.int i1), .val (.int i2), .val (.int i3), .val (.int i4), .val (.int c0), .val (.int c1), .val (.int c2), .val (.int (1 : Int32)), .val (.int (1 : Int32)), .val (.int (0 : Int32)), .val (.int (0 : Int32)), .val (.int cb), .val (.int q), .val (.int (Int32.ofNat (body q ([c0] : List Int32)).length)), .val (.int (Int32.ofNat (8 - (body q ([c0] : List Int32)).length))), .val (.int (Int32.ofNat lo)), .val (.ref ad), .val (.int (Int32.ofNat (lo + ((pre q) ++ e1 q c0).length))), .unset]) (S' := [(.int q), (.int c1), (.int (0 : Int32)), (.int (Int32.ofNat (lo + ((pre q) ++ e1 q c0).length))), (.ref ad)]) rfl ?_
    refine Run.static hK (index := 25) (y := (⟨"com/example/libidem/libidem/http/KeyHeaderParsePinLaw", "put", "([CIZCZ)I"⟩ : MethodName)) (Wt := 0) (kc := 0) (ks := 0) (hw _ (List.mem_of_getElem? (i := 15) rfl)) (hw _ (List.mem_of_getElem? (i := 16) rfl)) (hw _ (List.mem_of_getElem? (i := 2) rfl)) (hw _ (List.mem_of_getElem? (i := 17) rfl)) (by decide) (W' := []) (fun _ q => nomatch q) (Ctr.cal (c_put G ad (0 : Int32) c1 q lo hu0 Au0 gdz hB (by rw [if_pos (rfl : (0 : Int32) = 0), List.append_nil ((pre q) ++ e1 q c0)]; have z := hll; simp only [List.length_append, List.length_nil, enc] at z ⊢; omega) (prt_in p1)) (hw _ (List.mem_of_getElem? (i := 17) rfl)) (hw _ (List.mem_of_getElem? (i := 2) rfl)) (by decide) (by decide)) rfl (argsL := [(.ref ad), (.int (Int32.ofNat (lo + ((pre q) ++ e1 q c0).length))), (.int (0 : Int32)), (.int c1), (.int q)]) (rest := []) (lenOf pd_pt rfl) rfl (Nat.le_of_ble_eq_true rfl) (by decide +kernel) (by decide) (by decide) (fun vu1 hu1 qu1 nu1 => ?_)
    obtain ⟨rfl, Au1, Ku1⟩ := qu1
    rw [if_pos (rfl : (0 : Int32) = 0), List.append_nil ((pre q) ++ e1 q c0)]
    rw [if_pos (rfl : (0 : Int32) = 0), List.append_nil ((pre q) ++ e1 q c0)] at Au1
    refine Run.pure hK (seg := [(357, .istore 18, 2), (359, .aload 17, 2), (361, .iload 18, 2), (363, .iload 11, 2), (365, .iload 7, 2), (367, .iload 13, 2)]) (by decide +kernel) (pc' := 369) (L' := #[.val (.int i0), .val (.int i1), .val (.int i2), .val (.int i3), .val (.int i4), .val (.int c0), .val (.int c1), .val (.int c2), .val (.int (1 : Int32)), .val (.int (1 : Int32)), .val (.int (0 : Int32)), .val (.int (0 : Int32)), .val (.int cb), .val (.int q), .val (.int (Int32.ofNat (body q ([c0] : List Int32)).length)), .val (.int (Int32.ofNat (8 - (body q ([c0] : List Int32)).length))), .val (.int (Int32.ofNat lo)), .val (.ref ad), .val (.int (Int32.ofNat (lo + ((pre q) ++ e1 q c0).length))), .unset]) (S' := [(.int q), (.int c2), (.int (0 : Int32)), (.int (Int32.ofNat (lo + ((pre q) ++ e1 q c0).length))), (.ref ad)]) rfl ?_
    refine Run.static hK (index := 25) (y := (⟨"com/example/libidem/libidem/http/KeyHeaderParsePinLaw", "put", "([CIZCZ)I"⟩ : MethodName)) (Wt := 0) (kc := 0) (ks := 0) (hw _ (List.mem_of_getElem? (i := 15) rfl)) (hw _ (List.mem_of_getElem? (i := 16) rfl)) (hw _ (List.mem_of_getElem? (i := 2) rfl)) (hw _ (List.mem_of_getElem? (i := 17) rfl)) (by decide) (W' := []) (fun _ q => nomatch q) (Ctr.cal (c_put G ad (0 : Int32) c2 q lo hu1 Au1 gdz hB (by rw [if_pos (rfl : (0 : Int32) = 0), List.append_nil ((pre q) ++ e1 q c0)]; have z := hll; simp only [List.length_append, List.length_nil, enc] at z ⊢; omega) (prt_in p2)) (hw _ (List.mem_of_getElem? (i := 17) rfl)) (hw _ (List.mem_of_getElem? (i := 2) rfl)) (by decide) (by decide)) rfl (argsL := [(.ref ad), (.int (Int32.ofNat (lo + ((pre q) ++ e1 q c0).length))), (.int (0 : Int32)), (.int c2), (.int q)]) (rest := []) (lenOf pd_pt rfl) rfl (Nat.le_of_ble_eq_true rfl) (by decide +kernel) (by decide) (by decide) (fun vu2 hu2 qu2 nu2 => ?_)
    obtain ⟨rfl, Au2, Ku2⟩ := qu2
    rw [if_pos (rfl : (0 : Int32) = 0), List.append_nil ((pre q) ++ e1 q c0)]
    rw [if_pos (rfl : (0 : Int32) = 0), List.append_nil ((pre q) ++ e1 q c0)] at Au2
    have eW : ((pre q) ++ e1 q c0) = (pre q ++ enc q ([c0] : List Int32)) := by
      show _ = pre q ++ (e1 q c0 ++ [])
      simp only [List.append_nil, List.append_assoc]
    rw [eW] at Au2
    refine Run.pure hK (seg := [(372, .istore 18, 2)]) (by decide +kernel) (pc' := 374) (L' := #[.val (.int i0), .val (.int i1), .val (.int i2), .val (.int i3), .val (.int i4), .val (.int c0), .val (.int c1), .val (.int c2), .val (.int (1 : Int32)), .val (.int (1 : Int32)), .val (.int (0 : Int32)), .val (.int (0 : Int32)), .val (.int cb), .val (.int q), .val (.int (Int32.ofNat (body q ([c0] : List Int32)).length)), .val (.int (Int32.ofNat (8 - (body q ([c0] : List Int32)).length))), .val (.int (Int32.ofNat lo)), .val (.ref ad), .val (.int (Int32.ofNat (lo + ((pre q) ++ e1 q c0).length))), .unset]) (S' := []) rfl ?_
    rw [eW]
    suffices s389 : ∀ (f2 : Heap) (o18 : Slot), Arv Z f2 ad kd .char 8 ((Sp Bl lo (body q ([c0] : List Int32))).map Value.int) (.int 0) → Run Z consts_1 false K (fun v h' => v = some (.int 1)) [] f2 1 8 389 #[.val (.int i0), .val (.int i1), .val (.int i2), .val (.int i3), .val (.int i4), .val (.int c0), .val (.int c1), .val (.int c2), .val (.int (1 : Int32)), .val (.int (1 : Int32)), .val (.int (0 : Int32)), .val (.int (0 : Int32)), .val (.int cb), .val (.int q), .val (.int (Int32.ofNat (body q ([c0] : List Int32)).length)), .val (.int (Int32.ofNat (8 - (body q ([c0] : List Int32)).length))), .val (.int (Int32.ofNat lo)), .val (.ref ad), o18, .unset] [] by
      refine Run.pure hK (seg := [(374, .iload 13, 2)]) (by decide +kernel) (pc' := 376) (L' := #[.val (.int i0), .val (.int i1), .val (.int i2), .val (.int i3), .val (.int i4), .val (.int c0), .val (.int c1), .val (.int c2), .val (.int (1 : Int32)), .val (.int (1 : Int32)), .val (.int (0 : Int32)), .val (.int (0 : Int32)), .val (.int cb), .val (.int q), .val (.int (Int32.ofNat (body q ([c0] : List Int32)).length)), .val (.int (Int32.ofNat (8 - (body q ([c0] : List Int32)).length))), .val (.int (Int32.ofNat lo)), .val (.ref ad), .val (.int (Int32.ofNat (lo + (pre q ++ enc q ([c0] : List Int32)).length))), .unset]) (S' := [(.int q)]) rfl ?_
      refine Run.ifz hK (cd := .eq) (o := 13) (by decide +kernel) (by decide) (pc' := 389) rfl (fun r1 => ?_) (fun r1 => ?_)
      · replace r1 := (h_eq _ _).1 r1
        have pq : pre q = [] := if_pos r1
        have eb : body q ([c0] : List Int32) = (pre q ++ enc q ([c0] : List Int32)) := by rw [body_pre]; rw [pq, List.append_nil]
        have A9 : Arv Z hu2 ad kd .char 8 ((Sp Bl lo (body q ([c0] : List Int32))).map Value.int) (.int 0) := by rw [eb]; exact Au2
        exact s389 _ _ A9
      · replace r1 := (h_eq _ _).2 r1
        have pq : pre q = [34] := if_neg r1
        have eb : body q ([c0] : List Int32) = (pre q ++ enc q ([c0] : List Int32)) ++ [(34 : Int32)] := by rw [body_pre]; rw [show pre q = [34] from pq]
        have lw : lo + (pre q ++ enc q ([c0] : List Int32)).length < 8 := by rw [List.length_append] at hll; rw [pq] at hll; simp only [List.length_append, List.length_cons, List.length_nil] at hll ⊢; rw [pq]; simp only [List.length_cons, List.length_nil]; omega
        refine Run.pure hK (seg := [(379, .aload 17, 2), (381, .iload 18, 2), (383, .bipush 34, 2)]) (by decide +kernel) (pc' := 385) (L' := #[.val (.int i0), .val (.int i1), .val (.int i2), .val (.int i3), .val (.int i4), .val (.int c0), .val (.int c1), .val (.int c2), .val (.int (1 : Int32)), .val (.int (1 : Int32)), .val (.int (0 : Int32)), .val (.int (0 : Int32)), .val (.int cb), .val (.int q), .val (.int (Int32.ofNat (body q ([c0] : List Int32)).length)), .val (.int (Int32.ofNat (8 - (body q ([c0] : List Int32)).length))), .val (.int (Int32.ofNat lo)), .val (.ref ad), .val (.int (Int32.ofNat (lo + (pre q ++ enc q ([c0] : List Int32)).length))), .unset]) (S' := [(.int (34 : Int32)), (.int (Int32.ofNat (lo + (pre q ++ enc q ([c0] : List Int32)).length))), (.ref ad)]) rfl ?_
        refine Run.cst hK Au2 ⟨ofN_nn (by omega), by rw [Int32.lt_iff_toInt_lt, ofN (by omega), show (8 : Int32).toInt = 8 from rfl]; omega⟩ gdz (by decide +kernel) (fun hg Wg Bg => ?_)
        have Ag : Arv Z hg ad kd .char 8 ((Sp Bl lo ((pre q ++ enc q ([c0] : List Int32)) ++ [(34 : Int32)])).map Value.int) (.int 0) := by
          rw [← Sp_set (by omega), List.map_set]; rw [ofN_nat (by omega : lo + (pre q ++ enc q ([c0] : List Int32)).length ≤ 4000)] at Bg
          exact Bg.pad (set_pad2 _ _ (by rw [List.length_map, Sp_len (by omega)]; omega))
        refine Run.pure hK (seg := [(386, .iinc 18 1, 3)]) (by decide +kernel) (pc' := 389) (L' := #[.val (.int i0), .val (.int i1), .val (.int i2), .val (.int i3), .val (.int i4), .val (.int c0), .val (.int c1), .val (.int c2), .val (.int (1 : Int32)), .val (.int (1 : Int32)), .val (.int (0 : Int32)), .val (.int (0 : Int32)), .val (.int cb), .val (.int q), .val (.int (Int32.ofNat (body q ([c0] : List Int32)).length)), .val (.int (Int32.ofNat (8 - (body q ([c0] : List Int32)).length))), .val (.int (Int32.ofNat lo)), .val (.ref ad), .val (.int ((Int32.ofNat (lo + (pre q ++ enc q ([c0] : List Int32)).length)) + (1 : Int32))), .unset]) (S' := []) rfl ?_
        rw [← eb] at Ag
        exact s389 _ _ Ag
    intro f2 o18 A2
    rw [← body_pre] at hll
    refine Run.old (fun hO2 => ?_)
    refine Run.new hK (index := 29) (C := "java/lang/String") (n := 4) (hw _ (List.mem_of_getElem? (i := 18) rfl)) (hw _ (List.mem_of_getElem? (i := 19) rfl)) (hw _ (List.mem_of_getElem? (i := 20) rfl)) (by decide +kernel) (by decide) (by decide) (fun hs Es Xs Ds => ?_)
    obtain ⟨as_, zs⟩ : ∃ z, z = f2.size := ⟨_, rfl⟩
    rw [← zs]
    rw [← zs] at Xs Ds
    refine Run.pure hK (seg := [(392, .dup, 1), (393, .aload 17, 2)]) (by decide +kernel) (pc' := 395) (L' := #[.val (.int i0), .val (.int i1), .val (.int i2), .val (.int i3), .val (.int i4), .val (.int c0), .val (.int c1), .val (.int c2), .val (.int (1 : Int32)), .val (.int (1 : Int32)), .val (.int (0 : Int32)), .val (.int (0 : Int32)), .val (.int cb), .val (.int q), .val (.int (Int32.ofNat (body q ([c0] : List Int32)).length)), .val (.int (Int32.ofNat (8 - (body q ([c0] : List Int32)).length))), .val (.int (Int32.ofNat lo)), .val (.ref ad), o18, .unset]) (S' := [(.ref ad), (.ref as_), (.ref as_)]) rfl ?_
    have Vs := Ds (Or.inr (hw _ (List.mem_of_getElem? (i := 46) rfl))) (ty := .array .byte) (by decide)
    have Cs := Ds (Or.inr (hw _ (List.mem_of_getElem? (i := 44) rfl))) (ty := .byte) (by decide)
    have hSl : (Sp Bl lo (body q ([c0] : List Int32))).length = 8 := by rw [Sp_len (by omega)]; exact hB
    refine Run.special hK (index := 31) (y := (⟨"java/lang/String", "<init>", "([C)V"⟩ : MethodName)) (Wt := 1) (kc := 1) (ks := 8) rfl (hw _ (List.mem_of_getElem? (i := 21) rfl)) (hw _ (List.mem_of_getElem? (i := 22) rfl)) (hw _ (List.mem_of_getElem? (i := 23) rfl)) (by decide) (a := as_) (fun _ q => q) (Cal.more (kc' := 1) (ks' := 8) (cal_new1 (g_backV hw) (hw _ (List.mem_of_getElem? (i := 19) rfl)) (by rw [zs]; exact hO2.1) (List.mem_cons_self ..) Xs Vs Cs (A2.ext Es) O2 P5 (by rw [hSl]; rfl) (by omega) (by omega) (fun c hc => (Sp_mem hc).elim (fun z => (hbr c z).2) (fun z => body_in hk c z)) (by decide) (by decide)) (by decide) (by omega)) rfl (argsL := [(.ref ad)]) (rest := [(.ref as_)]) (lenOf pd_s1 rfl) rfl (Nat.le_of_ble_eq_true rfl) (by decide +kernel) (by decide) (by decide) (fun vj hj qj nj => ?_)
    obtain ⟨rfl, Fj, Kj⟩ := qj
    refine Run.static hK (index := 34) (y := (⟨"com/example/libidem/libidem/http/KeyHeader", "parse", "(Ljava/lang/String;)Ljava/lang/String;"⟩ : MethodName)) (Wt := 0) (kc := 8) (ks := 72) (hw _ (List.mem_of_getElem? (i := 47) rfl)) (hw _ (List.mem_of_getElem? (i := 48) rfl)) (hw _ (List.mem_of_getElem? (i := 49) rfl)) (hw _ (List.mem_of_getElem? (i := 50) rfl)) (by decide) (W' := []) (fun _ q => nomatch q) (Ctr.cal (c_par G as_ q lo hj Fj hB (fun c hc => (hbr c hc).1) (by omega) hk (by simp) hq) (hw _ (List.mem_of_getElem? (i := 50) rfl)) (hw _ (List.mem_of_getElem? (i := 49) rfl)) (by decide) (by decide)) rfl (argsL := [(.ref as_)]) (rest := []) (lenOf pd_ss rfl) rfl (Nat.le_of_ble_eq_true rfl) (by decide +kernel) (by decide) (by decide) (fun vP hP qP nP => ?_)
    obtain ⟨aP, rfl, FP⟩ := qP
    refine Run.pure hK (seg := [(401, .astore 19, 2), (403, .aload 19, 2)]) (by decide +kernel) (pc' := 405) (L' := #[.val (.int i0), .val (.int i1), .val (.int i2), .val (.int i3), .val (.int i4), .val (.int c0), .val (.int c1), .val (.int c2), .val (.int (1 : Int32)), .val (.int (1 : Int32)), .val (.int (0 : Int32)), .val (.int (0 : Int32)), .val (.int cb), .val (.int q), .val (.int (Int32.ofNat (body q ([c0] : List Int32)).length)), .val (.int (Int32.ofNat (8 - (body q ([c0] : List Int32)).length))), .val (.int (Int32.ofNat lo)), .val (.ref ad), o18, .val (.ref aP)]) (S' := [(.ref aP)]) rfl ?_
    refine Run.virtual hK (index := 40) (y := (⟨"java/lang/String", "length", "()I"⟩ : MethodName)) (z := (⟨"java/lang/String", "length", "()I"⟩ : MethodName)) (C := "java/lang/String") (Wt := 0) (kc := 0) (ks := 0) (hw _ (List.mem_of_getElem? (i := 213) rfl)) (hw _ (List.mem_of_getElem? (i := 52) rfl)) (nfS (hw _ (List.mem_of_getElem? (i := 54) rfl))) (hw _ (List.mem_of_getElem? (i := 54) rfl)) (hw _ (List.mem_of_getElem? (i := 53) rfl)) (by decide) (a := aP) FP.1 (fun _ q => q) (cal_len (g_lenW hw) (hw _ (List.mem_of_getElem? (i := 19) rfl)) FP O2 P5 (by decide) (by decide)) rfl (argsL := []) (rest := []) (lenOf pd_len rfl) rfl (Nat.le_of_ble_eq_true rfl) (by decide +kernel) (by decide) (by decide) (fun vL hL qL nL => ?_)
    obtain ⟨rfl, rfl⟩ := qL
    rw [show Int32.ofNat ([c0] : List Int32).length = (1 : Int32) from rfl]
    refine Run.pure hK (seg := [(408, .iload 8, 2)]) (by decide +kernel) (pc' := 410) (L' := #[.val (.int i0), .val (.int i1), .val (.int i2), .val (.int i3), .val (.int i4), .val (.int c0), .val (.int c1), .val (.int c2), .val (.int (1 : Int32)), .val (.int (1 : Int32)), .val (.int (0 : Int32)), .val (.int (0 : Int32)), .val (.int cb), .val (.int q), .val (.int (Int32.ofNat (body q ([c0] : List Int32)).length)), .val (.int (Int32.ofNat (8 - (body q ([c0] : List Int32)).length))), .val (.int (Int32.ofNat lo)), .val (.ref ad), o18, .val (.ref aP)]) (S' := [(.int (1 : Int32)), (.int (1 : Int32))]) rfl ?_
    refine Run.icmp hK (cd := .ne) (o := 55) (by decide +kernel) (by decide) (pc' := 465) rfl (fun q => by replace q := (h_ne _ _).1 q; exact absurd rfl q) (fun _ => ?_)
    refine Run.pure hK (seg := [(413, .iload 9, 2)]) (by decide +kernel) (pc' := 415) (L' := #[.val (.int i0), .val (.int i1), .val (.int i2), .val (.int i3), .val (.int i4), .val (.int c0), .val (.int c1), .val (.int c2), .val (.int (1 : Int32)), .val (.int (1 : Int32)), .val (.int (0 : Int32)), .val (.int (0 : Int32)), .val (.int cb), .val (.int q), .val (.int (Int32.ofNat (body q ([c0] : List Int32)).length)), .val (.int (Int32.ofNat (8 - (body q ([c0] : List Int32)).length))), .val (.int (Int32.ofNat lo)), .val (.ref ad), o18, .val (.ref aP)]) (S' := [(.int (1 : Int32))]) rfl ?_
    refine Run.ifz hK (cd := .eq) (o := 14) (by decide +kernel) (by decide) (pc' := 429) rfl (fun q => by replace q := (h_eq _ _).1 q; exact absurd q (by decide)) (fun _ => ?_)
    refine Run.pure hK (seg := [(418, .aload 19, 2), (420, .iconst 0, 1)]) (by decide +kernel) (pc' := 421) (L' := #[.val (.int i0), .val (.int i1), .val (.int i2), .val (.int i3), .val (.int i4), .val (.int c0), .val (.int c1), .val (.int c2), .val (.int (1 : Int32)), .val (.int (1 : Int32)), .val (.int (0 : Int32)), .val (.int (0 : Int32)), .val (.int cb), .val (.int q), .val (.int (Int32.ofNat (body q ([c0] : List Int32)).length)), .val (.int (Int32.ofNat (8 - (body q ([c0] : List Int32)).length))), .val (.int (Int32.ofNat lo)), .val (.ref ad), o18, .val (.ref aP)]) (S' := [(.int (0 : Int32)), (.ref aP)]) rfl ?_
    refine Run.virtual hK (index := 44) (y := (⟨"java/lang/String", "charAt", "(I)C"⟩ : MethodName)) (z := (⟨"java/lang/String", "charAt", "(I)C"⟩ : MethodName)) (C := "java/lang/String") (Wt := 0) (kc := 0) (ks := 0) (hw _ (List.mem_of_getElem? (i := 214) rfl)) (hw _ (List.mem_of_getElem? (i := 62) rfl)) (nfS (hw _ (List.mem_of_getElem? (i := 64) rfl))) (hw _ (List.mem_of_getElem? (i := 64) rfl)) (hw _ (List.mem_of_getElem? (i := 63) rfl)) (by decide) (a := aP) FP.1 (fun _ q => q) (cal_chr (i := 0) (g_chN hw) (hw _ (List.mem_of_getElem? (i := 19) rfl)) FP O2 P5 O4.1 O4.2 (by simp) rfl (by decide) (by decide)) rfl (argsL := [(.int (0 : Int32))]) (rest := []) (lenOf pd_ch rfl) rfl (Nat.le_of_ble_eq_true rfl) (by decide +kernel) (by decide) (by decide) (fun vz0 hz0 qz0 nz0 => ?_)
    obtain ⟨rfl, rfl⟩ := qz0
    rw [show ([c0] : List Int32).getD 0 0 = c0 from rfl]
    refine Run.pure hK (seg := [(424, .iload 5, 2)]) (by decide +kernel) (pc' := 426) (L' := #[.val (.int i0), .val (.int i1), .val (.int i2), .val (.int i3), .val (.int i4), .val (.int c0), .val (.int c1), .val (.int c2), .val (.int (1 : Int32)), .val (.int (1 : Int32)), .val (.int (0 : Int32)), .val (.int (0 : Int32)), .val (.int cb), .val (.int q), .val (.int (Int32.ofNat (body q ([c0] : List Int32)).length)), .val (.int (Int32.ofNat (8 - (body q ([c0] : List Int32)).length))), .val (.int (Int32.ofNat lo)), .val (.ref ad), o18, .val (.ref aP)]) (S' := [(.int c0), (.int c0)]) rfl ?_
    refine Run.icmp hK (cd := .ne) (o := 39) (by decide +kernel) (by decide) (pc' := 465) rfl (fun q => by replace q := (h_ne _ _).1 q; exact absurd rfl q) (fun _ => ?_)
    refine Run.pure hK (seg := [(429, .iload 10, 2)]) (by decide +kernel) (pc' := 431) (L' := #[.val (.int i0), .val (.int i1), .val (.int i2), .val (.int i3), .val (.int i4), .val (.int c0), .val (.int c1), .val (.int c2), .val (.int (1 : Int32)), .val (.int (1 : Int32)), .val (.int (0 : Int32)), .val (.int (0 : Int32)), .val (.int cb), .val (.int q), .val (.int (Int32.ofNat (body q ([c0] : List Int32)).length)), .val (.int (Int32.ofNat (8 - (body q ([c0] : List Int32)).length))), .val (.int (Int32.ofNat lo)), .val (.ref ad), o18, .val (.ref aP)]) (S' := [(.int (0 : Int32))]) rfl ?_
    refine Run.ifz hK (cd := .eq) (o := 14) (by decide +kernel) (by decide) (pc' := 445) rfl (fun _ => ?_) (fun q => by replace q := (h_eq _ _).2 q; exact absurd rfl q)
    refine Run.pure hK (seg := [(445, .iload 11, 2)]) (by decide +kernel) (pc' := 447) (L' := #[.val (.int i0), .val (.int i1), .val (.int i2), .val (.int i3), .val (.int i4), .val (.int c0), .val (.int c1), .val (.int c2), .val (.int (1 : Int32)), .val (.int (1 : Int32)), .val (.int (0 : Int32)), .val (.int (0 : Int32)), .val (.int cb), .val (.int q), .val (.int (Int32.ofNat (body q ([c0] : List Int32)).length)), .val (.int (Int32.ofNat (8 - (body q ([c0] : List Int32)).length))), .val (.int (Int32.ofNat lo)), .val (.ref ad), o18, .val (.ref aP)]) (S' := [(.int (0 : Int32))]) rfl ?_
    refine Run.ifz hK (cd := .eq) (o := 14) (by decide +kernel) (by decide) (pc' := 461) rfl (fun _ => ?_) (fun q => by replace q := (h_eq _ _).2 q; exact absurd rfl q)
    refine Run.pure hK (seg := [(461, .iconst 1, 1), (462, .goto 4, 3)]) (by decide +kernel) (pc' := 466) (L' := #[.val (.int i0), .val (.int i1), .val (.int i2), .val (.int i3), .val (.int i4), .val (.int c0), .val (.int c1), .val (.int c2), .val (.int (1 : Int32)), .val (.int (1 : Int32)), .val (.int (0 : Int32)), .val (.int (0 : Int32)), .val (.int cb), .val (.int q), .val (.int (Int32.ofNat (body q ([c0] : List Int32)).length)), .val (.int (Int32.ofNat (8 - (body q ([c0] : List Int32)).length))), .val (.int (Int32.ofNat lo)), .val (.ref ad), o18, .val (.ref aP)]) (S' := [(.int (1 : Int32))]) rfl ?_
    exact Run.retw hK (i := .ireturn) rfl (Or.inl ⟨rfl, Or.inr (Or.inl rfl), _, rfl⟩) (by decide +kernel) (by decide) (by decide) rfl
  · have hk : ∀ c ∈ ([c0, c1] : List Int32), prt c := fun c hc => by simp only [List.mem_cons, List.not_mem_nil, or_false] at hc; rcases hc with rfl | rfl; exact p0; exact p1
    refine Run.pure hK (seg := [(21, .istore 8, 2), (23, .iload 8, 2)]) (by decide +kernel) (pc' := 25) (L' := #[.val (.int i0), .val (.int i1), .val (.int i2), .val (.int i3), .val (.int i4), .val (.int c0), .val (.int c1), .val (.int c2), .val (.int (2 : Int32)), .unset, .unset, .unset, .unset, .unset, .unset, .unset, .unset, .unset, .unset, .unset]) (S' := [(.int (2 : Int32))]) rfl ?_
    refine Run.ifz hK (cd := .le) (o := 7) (by decide +kernel) (by decide) (pc' := 32) rfl (fun q => by replace q := (h_le _ _).1 q; exact absurd (by decide) q) (fun _ => ?_)
    refine Run.pure hK (seg := [(28, .iconst 1, 1), (29, .goto 4, 3)]) (by decide +kernel) (pc' := 33) (L' := #[.val (.int i0), .val (.int i1), .val (.int i2), .val (.int i3), .val (.int i4), .val (.int c0), .val (.int c1), .val (.int c2), .val (.int (2 : Int32)), .unset, .unset, .unset, .unset, .unset, .unset, .unset, .unset, .unset, .unset, .unset]) (S' := [(.int (1 : Int32))]) rfl ?_
    refine Run.pure hK (seg := [(33, .istore 9, 2), (35, .iload 8, 2), (37, .iconst 1, 1)]) (by decide +kernel) (pc' := 38) (L' := #[.val (.int i0), .val (.int i1), .val (.int i2), .val (.int i3), .val (.int i4), .val (.int c0), .val (.int c1), .val (.int c2), .val (.int (2 : Int32)), .val (.int (1 : Int32)), .unset, .unset, .unset, .unset, .unset, .unset, .unset, .unset, .unset, .unset]) (S' := [(.int (1 : Int32)), (.int (2 : Int32))]) rfl ?_
    refine Run.icmp hK (cd := .le) (o := 7) (by decide +kernel) (by decide) (pc' := 45) rfl (fun q => by replace q := (h_le _ _).1 q; exact absurd (by decide) q) (fun _ => ?_)
    refine Run.pure hK (seg := [(41, .iconst 1, 1), (42, .goto 4, 3)]) (by decide +kernel) (pc' := 46) (L' := #[.val (.int i0), .val (.int i1), .val (.int i2), .val (.int i3), .val (.int i4), .val (.int c0), .val (.int c1), .val (.int c2), .val (.int (2 : Int32)), .val (.int (1 : Int32)), .unset, .unset, .unset, .unset, .unset, .unset, .unset, .unset, .unset, .unset]) (S' := [(.int (1 : Int32))]) rfl ?_
    refine Run.pure hK (seg := [(46, .istore 10, 2), (48, .iload 8, 2), (50, .iconst 2, 1)]) (by decide +kernel) (pc' := 51) (L' := #[.val (.int i0), .val (.int i1), .val (.int i2), .val (.int i3), .val (.int i4), .val (.int c0), .val (.int c1), .val (.int c2), .val (.int (2 : Int32)), .val (.int (1 : Int32)), .val (.int (1 : Int32)), .unset, .unset, .unset, .unset, .unset, .unset, .unset, .unset, .unset]) (S' := [(.int (2 : Int32)), (.int (2 : Int32))]) rfl ?_
    refine Run.icmp hK (cd := .le) (o := 7) (by decide +kernel) (by decide) (pc' := 58) rfl (fun _ => ?_) (fun q => by replace q := (h_le _ _).2 q; exact absurd q (by decide))
    refine Run.pure hK (seg := [(58, .iconst 0, 1)]) (by decide +kernel) (pc' := 59) (L' := #[.val (.int i0), .val (.int i1), .val (.int i2), .val (.int i3), .val (.int i4), .val (.int c0), .val (.int c1), .val (.int c2), .val (.int (2 : Int32)), .val (.int (1 : Int32)), .val (.int (1 : Int32)), .unset, .unset, .unset, .unset, .unset, .unset, .unset, .unset, .unset]) (S' := [(.int (0 : Int32))]) rfl ?_
    refine Run.pure hK (seg := [(59, .istore 11, 2), (61, .iload 9, 2)]) (by decide +kernel) (pc' := 63) (L' := #[.val (.int i0), .val (.int i1), .val (.int i2), .val (.int i3), .val (.int i4), .val (.int c0), .val (.int c1), .val (.int c2), .val (.int (2 : Int32)), .val (.int (1 : Int32)), .val (.int (1 : Int32)), .val (.int (0 : Int32)), .unset, .unset, .unset, .unset, .unset, .unset, .unset, .unset]) (S' := [(.int (1 : Int32))]) rfl ?_
    suffices s105 : ∀ cb : Int32, ((cb = 1 ∧ ∀ c ∈ ([c0, c1] : List Int32), bok c) ∨ cb = 0) → Run Z consts_1 false K (fun v h' => v = some (.int 1)) [] hp2 0 0 105 #[.val (.int i0), .val (.int i1), .val (.int i2), .val (.int i3), .val (.int i4), .val (.int c0), .val (.int c1), .val (.int c2), .val (.int (2 : Int32)), .val (.int (1 : Int32)), .val (.int (1 : Int32)), .val (.int (0 : Int32)), .unset, .unset, .unset, .unset, .unset, .unset, .unset, .unset] [(.int cb)] by
      refine Run.ifz hK (cd := .eq) (o := 11) (by decide +kernel) (by decide) (pc' := 74) rfl (fun q => by replace q := (h_eq _ _).1 q; exact absurd q (by decide)) (fun _ => ?_)
      refine Run.pure hK (seg := [(66, .iload 5, 2)]) (by decide +kernel) (pc' := 68) (L' := #[.val (.int i0), .val (.int i1), .val (.int i2), .val (.int i3), .val (.int i4), .val (.int c0), .val (.int c1), .val (.int c2), .val (.int (2 : Int32)), .val (.int (1 : Int32)), .val (.int (1 : Int32)), .val (.int (0 : Int32)), .unset, .unset, .unset, .unset, .unset, .unset, .unset, .unset]) (S' := [(.int c0)]) rfl ?_
      refine Run.static hK (index := 18) (y := (⟨"com/example/libidem/libidem/http/KeyHeaderParsePinLaw", "bareOk", "(C)Z"⟩ : MethodName)) (Wt := 0) (kc := 0) (ks := 0) (hw _ (List.mem_of_getElem? (i := 5) rfl)) (hw _ (List.mem_of_getElem? (i := 6) rfl)) (hw _ (List.mem_of_getElem? (i := 2) rfl)) (hw _ (List.mem_of_getElem? (i := 7) rfl)) (by decide) (W' := []) (fun _ q => nomatch q) (Ctr.cal (c_bok G c0 hp2) (hw _ (List.mem_of_getElem? (i := 7) rfl)) (hw _ (List.mem_of_getElem? (i := 2) rfl)) (by decide) (by decide)) rfl (argsL := [(.int c0)]) (rest := []) (lenOf pd_cz rfl) rfl (Nat.le_of_ble_eq_true rfl) (by decide +kernel) (by decide) (by decide) (fun vb0 hb0 qb0 nb0 => ?_)
      obtain ⟨rfl, r0, rfl, hr0⟩ := qb0
      refine Run.ifz hK (cd := .eq) (o := 33) (by decide +kernel) (by decide) (pc' := 104) rfl (fun q => ?_) (fun q0 => ?_)
      · replace q := (h_eq _ _).1 q
        refine Run.pure hK (seg := [(104, .iconst 0, 1)]) (by decide +kernel) (pc' := 105) (L' := #[.val (.int i0), .val (.int i1), .val (.int i2), .val (.int i3), .val (.int i4), .val (.int c0), .val (.int c1), .val (.int c2), .val (.int (2 : Int32)), .val (.int (1 : Int32)), .val (.int (1 : Int32)), .val (.int (0 : Int32)), .unset, .unset, .unset, .unset, .unset, .unset, .unset, .unset]) (S' := [(.int (0 : Int32))]) rfl ?_
        exact s105 0 (Or.inr rfl)
      replace q0 := (h_eq _ _).2 q0
      have bk0 : bok c0 := by rcases hr0 with ⟨-, y⟩ | ⟨y, -⟩; exact y; exact absurd y q0
      refine Run.pure hK (seg := [(74, .iload 10, 2)]) (by decide +kernel) (pc' := 76) (L' := #[.val (.int i0), .val (.int i1), .val (.int i2), .val (.int i3), .val (.int i4), .val (.int c0), .val (.int c1), .val (.int c2), .val (.int (2 : Int32)), .val (.int (1 : Int32)), .val (.int (1 : Int32)), .val (.int (0 : Int32)), .unset, .unset, .unset, .unset, .unset, .unset, .unset, .unset]) (S' := [(.int (1 : Int32))]) rfl ?_
      refine Run.ifz hK (cd := .eq) (o := 11) (by decide +kernel) (by decide) (pc' := 87) rfl (fun q => by replace q := (h_eq _ _).1 q; exact absurd q (by decide)) (fun _ => ?_)
      refine Run.pure hK (seg := [(79, .iload 6, 2)]) (by decide +kernel) (pc' := 81) (L' := #[.val (.int i0), .val (.int i1), .val (.int i2), .val (.int i3), .val (.int i4), .val (.int c0), .val (.int c1), .val (.int c2), .val (.int (2 : Int32)), .val (.int (1 : Int32)), .val (.int (1 : Int32)), .val (.int (0 : Int32)), .unset, .unset, .unset, .unset, .unset, .unset, .unset, .unset]) (S' := [(.int c1)]) rfl ?_
      refine Run.static hK (index := 18) (y := (⟨"com/example/libidem/libidem/http/KeyHeaderParsePinLaw", "bareOk", "(C)Z"⟩ : MethodName)) (Wt := 0) (kc := 0) (ks := 0) (hw _ (List.mem_of_getElem? (i := 5) rfl)) (hw _ (List.mem_of_getElem? (i := 6) rfl)) (hw _ (List.mem_of_getElem? (i := 2) rfl)) (hw _ (List.mem_of_getElem? (i := 7) rfl)) (by decide) (W' := []) (fun _ q => nomatch q) (Ctr.cal (c_bok G c1 hb0) (hw _ (List.mem_of_getElem? (i := 7) rfl)) (hw _ (List.mem_of_getElem? (i := 2) rfl)) (by decide) (by decide)) rfl (argsL := [(.int c1)]) (rest := []) (lenOf pd_cz rfl) rfl (Nat.le_of_ble_eq_true rfl) (by decide +kernel) (by decide) (by decide) (fun vb1 hb1 qb1 nb1 => ?_)
      obtain ⟨rfl, r1, rfl, hr1⟩ := qb1
      refine Run.ifz hK (cd := .eq) (o := 20) (by decide +kernel) (by decide) (pc' := 104) rfl (fun q => ?_) (fun q1 => ?_)
      · replace q := (h_eq _ _).1 q
        refine Run.pure hK (seg := [(104, .iconst 0, 1)]) (by decide +kernel) (pc' := 105) (L' := #[.val (.int i0), .val (.int i1), .val (.int i2), .val (.int i3), .val (.int i4), .val (.int c0), .val (.int c1), .val (.int c2), .val (.int (2 : Int32)), .val (.int (1 : Int32)), .val (.int (1 : Int32)), .val (.int (0 : Int32)), .unset, .unset, .unset, .unset, .unset, .unset, .unset, .unset]) (S' := [(.int (0 : Int32))]) rfl ?_
        exact s105 0 (Or.inr rfl)
      replace q1 := (h_eq _ _).2 q1
      have bk1 : bok c1 := by rcases hr1 with ⟨-, y⟩ | ⟨y, -⟩; exact y; exact absurd y q1
      refine Run.pure hK (seg := [(87, .iload 11, 2)]) (by decide +kernel) (pc' := 89) (L' := #[.val (.int i0), .val (.int i1), .val (.int i2), .val (.int i3), .val (.int i4), .val (.int c0), .val (.int c1), .val (.int c2), .val (.int (2 : Int32)), .val (.int (1 : Int32)), .val (.int (1 : Int32)), .val (.int (0 : Int32)), .unset, .unset, .unset, .unset, .unset, .unset, .unset, .unset]) (S' := [(.int (0 : Int32))]) rfl ?_
      refine Run.ifz hK (cd := .eq) (o := 11) (by decide +kernel) (by decide) (pc' := 100) rfl (fun _ => ?_) (fun q => by replace q := (h_eq _ _).2 q; exact absurd rfl q)
      refine Run.pure hK (seg := [(100, .iconst 1, 1), (101, .goto 4, 3)]) (by decide +kernel) (pc' := 105) (L' := #[.val (.int i0), .val (.int i1), .val (.int i2), .val (.int i3), .val (.int i4), .val (.int c0), .val (.int c1), .val (.int c2), .val (.int (2 : Int32)), .val (.int (1 : Int32)), .val (.int (1 : Int32)), .val (.int (0 : Int32)), .unset, .unset, .unset, .unset, .unset, .unset, .unset, .unset]) (S' := [(.int (1 : Int32))]) rfl ?_
      exact s105 1 (Or.inl ⟨rfl, fun c hc => by simp only [List.mem_cons, List.not_mem_nil, or_false] at hc; rcases hc with rfl | rfl; exact bk0; exact bk1⟩)
    intro cb hcb
    refine Run.pure hK (seg := [(105, .istore 12, 2), (107, .iload_n 3, 1), (108, .iconst 4, 1), (109, .iand, 1)]) (by decide +kernel) (pc' := 110) (L' := #[.val (.int i0), .val (.int i1), .val (.int i2), .val (.int i3), .val (.int i4), .val (.int c0), .val (.int c1), .val (.int c2), .val (.int (2 : Int32)), .val (.int (1 : Int32)), .val (.int (1 : Int32)), .val (.int (0 : Int32)), .val (.int cb), .unset, .unset, .unset, .unset, .unset, .unset, .unset]) (S' := [(.int (i3 &&& (4 : Int32)))]) rfl ?_
    suffices s123 : ∀ q : Int32, (q = 1 ∨ (q = 0 ∧ ∀ c ∈ ([c0, c1] : List Int32), bok c)) → Run Z consts_1 false K (fun v h' => v = some (.int 1)) [] hp2 0 0 123 #[.val (.int i0), .val (.int i1), .val (.int i2), .val (.int i3), .val (.int i4), .val (.int c0), .val (.int c1), .val (.int c2), .val (.int (2 : Int32)), .val (.int (1 : Int32)), .val (.int (1 : Int32)), .val (.int (0 : Int32)), .val (.int cb), .unset, .unset, .unset, .unset, .unset, .unset, .unset] [(.int q)] by
      refine Run.ifz hK (cd := .ne) (o := 8) (by decide +kernel) (by decide) (pc' := 118) rfl (fun r1 => ?_) (fun r1 => ?_)
      · replace r1 := (h_ne _ _).1 r1
        refine Run.pure hK (seg := [(118, .iconst 1, 1), (119, .goto 4, 3)]) (by decide +kernel) (pc' := 123) (L' := #[.val (.int i0), .val (.int i1), .val (.int i2), .val (.int i3), .val (.int i4), .val (.int c0), .val (.int c1), .val (.int c2), .val (.int (2 : Int32)), .val (.int (1 : Int32)), .val (.int (1 : Int32)), .val (.int (0 : Int32)), .val (.int cb), .unset, .unset, .unset, .unset, .unset, .unset, .unset]) (S' := [(.int (1 : Int32))]) rfl ?_
        exact s123 1 (Or.inl rfl)
      · replace r1 := (h_ne _ _).2 r1
        refine Run.pure hK (seg := [(113, .iload 12, 2)]) (by decide +kernel) (pc' := 115) (L' := #[.val (.int i0), .val (.int i1), .val (.int i2), .val (.int i3), .val (.int i4), .val (.int c0), .val (.int c1), .val (.int c2), .val (.int (2 : Int32)), .val (.int (1 : Int32)), .val (.int (1 : Int32)), .val (.int (0 : Int32)), .val (.int cb), .unset, .unset, .unset, .unset, .unset, .unset, .unset]) (S' := [(.int cb)]) rfl ?_
        refine Run.ifz hK (cd := .ne) (o := 7) (by decide +kernel) (by decide) (pc' := 122) rfl (fun r2 => ?_) (fun r2 => ?_)
        · replace r2 := (h_ne _ _).1 r2
          refine Run.pure hK (seg := [(122, .iconst 0, 1)]) (by decide +kernel) (pc' := 123) (L' := #[.val (.int i0), .val (.int i1), .val (.int i2), .val (.int i3), .val (.int i4), .val (.int c0), .val (.int c1), .val (.int c2), .val (.int (2 : Int32)), .val (.int (1 : Int32)), .val (.int (1 : Int32)), .val (.int (0 : Int32)), .val (.int cb), .unset, .unset, .unset, .unset, .unset, .unset, .unset]) (S' := [(.int (0 : Int32))]) rfl ?_
          exact s123 0 (Or.inr ⟨rfl, by rcases hcb with ⟨-, y⟩ | y; exact y; exact absurd y r2⟩)
        · replace r2 := (h_ne _ _).2 r2
          refine Run.pure hK (seg := [(118, .iconst 1, 1), (119, .goto 4, 3)]) (by decide +kernel) (pc' := 123) (L' := #[.val (.int i0), .val (.int i1), .val (.int i2), .val (.int i3), .val (.int i4), .val (.int c0), .val (.int c1), .val (.int c2), .val (.int (2 : Int32)), .val (.int (1 : Int32)), .val (.int (1 : Int32)), .val (.int (0 : Int32)), .val (.int cb), .unset, .unset, .unset, .unset, .unset, .unset, .unset]) (S' := [(.int (1 : Int32))]) rfl ?_
          exact s123 1 (Or.inl rfl)
    intro q hq
    refine Run.pure hK (seg := [(123, .istore 13, 2)]) (by decide +kernel) (pc' := 125) (L' := #[.val (.int i0), .val (.int i1), .val (.int i2), .val (.int i3), .val (.int i4), .val (.int c0), .val (.int c1), .val (.int c2), .val (.int (2 : Int32)), .val (.int (1 : Int32)), .val (.int (1 : Int32)), .val (.int (0 : Int32)), .val (.int cb), .val (.int q), .unset, .unset, .unset, .unset, .unset, .unset]) (S' := []) rfl ?_
    suffices s200 : (body q ([c0, c1] : List Int32)).length ≤ 8 → Run Z consts_1 false K (fun v h' => v = some (.int 1)) [] hp2 0 0 200 #[.val (.int i0), .val (.int i1), .val (.int i2), .val (.int i3), .val (.int i4), .val (.int c0), .val (.int c1), .val (.int c2), .val (.int (2 : Int32)), .val (.int (1 : Int32)), .val (.int (1 : Int32)), .val (.int (0 : Int32)), .val (.int cb), .val (.int q), .val (.int (Int32.ofNat (body q ([c0, c1] : List Int32)).length)), .unset, .unset, .unset, .unset, .unset] [] by
      rcases hq with rfl | ⟨rfl, -⟩
      · refine Run.pure hK (seg := [(125, .iload 13, 2)]) (by decide +kernel) (pc' := 127) (L' := #[.val (.int i0), .val (.int i1), .val (.int i2), .val (.int i3), .val (.int i4), .val (.int c0), .val (.int c1), .val (.int c2), .val (.int (2 : Int32)), .val (.int (1 : Int32)), .val (.int (1 : Int32)), .val (.int (0 : Int32)), .val (.int cb), .val (.int (1 : Int32)), .unset, .unset, .unset, .unset, .unset, .unset]) (S' := [(.int (1 : Int32))]) rfl ?_
        refine Run.ifz hK (cd := .eq) (o := 69) (by decide +kernel) (by decide) (pc' := 196) rfl (fun q => by replace q := (h_eq _ _).1 q; exact absurd q (by decide)) (fun _ => ?_)
        refine Run.pure hK (seg := [(130, .iconst 2, 1), (131, .iload 8, 2), (133, .iadd, 1), (134, .iload 9, 2)]) (by decide +kernel) (pc' := 136) (L' := #[.val (.int i0), .val (.int i1), .val (.int i2), .val (.int i3), .val (.int i4), .val (.int c0), .val (.int c1), .val (.int c2), .val (.int (2 : Int32)), .val (.int (1 : Int32)), .val (.int (1 : Int32)), .val (.int (0 : Int32)), .val (.int cb), .val (.int (1 : Int32)), .unset, .unset, .unset, .unset, .unset, .unset]) (S' := [(.int (1 : Int32)), (.int ((2 : Int32) + (2 : Int32)))]) rfl ?_
        suffices t0 : ∀ E0 : Int32, ((E0 = 1 ∧ (c0 = 34 ∨ c0 = 92)) ∨ (E0 = 0 ∧ ¬ (c0 = 34 ∨ c0 = 92))) → Run Z consts_1 false K (fun v h' => v = some (.int 1)) [] hp2 0 0 152 #[.val (.int i0), .val (.int i1), .val (.int i2), .val (.int i3), .val (.int i4), .val (.int c0), .val (.int c1), .val (.int c2), .val (.int (2 : Int32)), .val (.int (1 : Int32)), .val (.int (1 : Int32)), .val (.int (0 : Int32)), .val (.int cb), .val (.int (1 : Int32)), .unset, .unset, .unset, .unset, .unset, .unset] [(.int E0), (.int ((2 : Int32) + (2 : Int32)))] by
          refine Run.ifz hK (cd := .eq) (o := 15) (by decide +kernel) (by decide) (pc' := 151) rfl (fun q => by replace q := (h_eq _ _).1 q; exact absurd q (by decide)) (fun _ => ?_)
          refine Run.pure hK (seg := [(139, .iload 5, 2)]) (by decide +kernel) (pc' := 141) (L' := #[.val (.int i0), .val (.int i1), .val (.int i2), .val (.int i3), .val (.int i4), .val (.int c0), .val (.int c1), .val (.int c2), .val (.int (2 : Int32)), .val (.int (1 : Int32)), .val (.int (1 : Int32)), .val (.int (0 : Int32)), .val (.int cb), .val (.int (1 : Int32)), .unset, .unset, .unset, .unset, .unset, .unset]) (S' := [(.int c0), (.int ((2 : Int32) + (2 : Int32)))]) rfl ?_
          refine Run.static hK (index := 8) (y := (⟨"com/example/libidem/libidem/http/KeyHeaderParsePinLaw", "esc", "(C)Z"⟩ : MethodName)) (Wt := 1) (kc := 0) (ks := 0) (hw _ (List.mem_of_getElem? (i := 8) rfl)) (hw _ (List.mem_of_getElem? (i := 9) rfl)) (hw _ (List.mem_of_getElem? (i := 2) rfl)) (hw _ (List.mem_of_getElem? (i := 10) rfl)) (by decide) (W' := []) (fun _ q => nomatch q) (Ctr.cal (c_esc G c0 hp2) (hw _ (List.mem_of_getElem? (i := 10) rfl)) (hw _ (List.mem_of_getElem? (i := 2) rfl)) (by decide) (by decide)) rfl (argsL := [(.int c0)]) (rest := [(.int ((2 : Int32) + (2 : Int32)))]) (lenOf pd_cz rfl) rfl (Nat.le_of_ble_eq_true rfl) (by decide +kernel) (by decide) (by decide) (fun ve0 he0 qe0 ne0 => ?_)
          obtain ⟨rfl, r, rfl, hr⟩ := qe0
          rcases hr with ⟨rfl, hr⟩ | ⟨rfl, hr⟩
          · refine Run.ifz hK (cd := .eq) (o := 7) (by decide +kernel) (by decide) (pc' := 151) rfl (fun q => by replace q := (h_eq _ _).1 q; exact absurd q (by decide)) (fun _ => ?_)
            refine Run.pure hK (seg := [(147, .iconst 1, 1), (148, .goto 4, 3)]) (by decide +kernel) (pc' := 152) (L' := #[.val (.int i0), .val (.int i1), .val (.int i2), .val (.int i3), .val (.int i4), .val (.int c0), .val (.int c1), .val (.int c2), .val (.int (2 : Int32)), .val (.int (1 : Int32)), .val (.int (1 : Int32)), .val (.int (0 : Int32)), .val (.int cb), .val (.int (1 : Int32)), .unset, .unset, .unset, .unset, .unset, .unset]) (S' := [(.int (1 : Int32)), (.int ((2 : Int32) + (2 : Int32)))]) rfl ?_
            exact t0 1 (Or.inl ⟨rfl, hr⟩)
          · refine Run.ifz hK (cd := .eq) (o := 7) (by decide +kernel) (by decide) (pc' := 151) rfl (fun _ => ?_) (fun q => by replace q := (h_eq _ _).2 q; exact absurd rfl q)
            refine Run.pure hK (seg := [(151, .iconst 0, 1)]) (by decide +kernel) (pc' := 152) (L' := #[.val (.int i0), .val (.int i1), .val (.int i2), .val (.int i3), .val (.int i4), .val (.int c0), .val (.int c1), .val (.int c2), .val (.int (2 : Int32)), .val (.int (1 : Int32)), .val (.int (1 : Int32)), .val (.int (0 : Int32)), .val (.int cb), .val (.int (1 : Int32)), .unset, .unset, .unset, .unset, .unset, .unset]) (S' := [(.int (0 : Int32)), (.int ((2 : Int32) + (2 : Int32)))]) rfl ?_
            exact t0 0 (Or.inr ⟨rfl, hr⟩)
        intro E0 hE0
        obtain ⟨m0, rfl, hm0, hb0⟩ := e1_len hE0
        refine Run.pure hK (seg := [(152, .iadd, 1), (153, .iload 10, 2)]) (by decide +kernel) (pc' := 155) (L' := #[.val (.int i0), .val (.int i1), .val (.int i2), .val (.int i3), .val (.int i4), .val (.int c0), .val (.int c1), .val (.int c2), .val (.int (2 : Int32)), .val (.int (1 : Int32)), .val (.int (1 : Int32)), .val (.int (0 : Int32)), .val (.int cb), .val (.int (1 : Int32)), .unset, .unset, .unset, .unset, .unset, .unset]) (S' := [(.int (1 : Int32)), (.int (((2 : Int32) + (2 : Int32)) + (Int32.ofNat m0)))]) rfl ?_
        suffices t1 : ∀ E1 : Int32, ((E1 = 1 ∧ (c1 = 34 ∨ c1 = 92)) ∨ (E1 = 0 ∧ ¬ (c1 = 34 ∨ c1 = 92))) → Run Z consts_1 false K (fun v h' => v = some (.int 1)) [] hp2 0 0 171 #[.val (.int i0), .val (.int i1), .val (.int i2), .val (.int i3), .val (.int i4), .val (.int c0), .val (.int c1), .val (.int c2), .val (.int (2 : Int32)), .val (.int (1 : Int32)), .val (.int (1 : Int32)), .val (.int (0 : Int32)), .val (.int cb), .val (.int (1 : Int32)), .unset, .unset, .unset, .unset, .unset, .unset] [(.int E1), (.int (((2 : Int32) + (2 : Int32)) + (Int32.ofNat m0)))] by
          refine Run.ifz hK (cd := .eq) (o := 15) (by decide +kernel) (by decide) (pc' := 170) rfl (fun q => by replace q := (h_eq _ _).1 q; exact absurd q (by decide)) (fun _ => ?_)
          refine Run.pure hK (seg := [(158, .iload 6, 2)]) (by decide +kernel) (pc' := 160) (L' := #[.val (.int i0), .val (.int i1), .val (.int i2), .val (.int i3), .val (.int i4), .val (.int c0), .val (.int c1), .val (.int c2), .val (.int (2 : Int32)), .val (.int (1 : Int32)), .val (.int (1 : Int32)), .val (.int (0 : Int32)), .val (.int cb), .val (.int (1 : Int32)), .unset, .unset, .unset, .unset, .unset, .unset]) (S' := [(.int c1), (.int (((2 : Int32) + (2 : Int32)) + (Int32.ofNat m0)))]) rfl ?_
          refine Run.static hK (index := 8) (y := (⟨"com/example/libidem/libidem/http/KeyHeaderParsePinLaw", "esc", "(C)Z"⟩ : MethodName)) (Wt := 1) (kc := 0) (ks := 0) (hw _ (List.mem_of_getElem? (i := 8) rfl)) (hw _ (List.mem_of_getElem? (i := 9) rfl)) (hw _ (List.mem_of_getElem? (i := 2) rfl)) (hw _ (List.mem_of_getElem? (i := 10) rfl)) (by decide) (W' := []) (fun _ q => nomatch q) (Ctr.cal (c_esc G c1 hp2) (hw _ (List.mem_of_getElem? (i := 10) rfl)) (hw _ (List.mem_of_getElem? (i := 2) rfl)) (by decide) (by decide)) rfl (argsL := [(.int c1)]) (rest := [(.int (((2 : Int32) + (2 : Int32)) + (Int32.ofNat m0)))]) (lenOf pd_cz rfl) rfl (Nat.le_of_ble_eq_true rfl) (by decide +kernel) (by decide) (by decide) (fun ve1 he1 qe1 ne1 => ?_)
          obtain ⟨rfl, r, rfl, hr⟩ := qe1
          rcases hr with ⟨rfl, hr⟩ | ⟨rfl, hr⟩
          · refine Run.ifz hK (cd := .eq) (o := 7) (by decide +kernel) (by decide) (pc' := 170) rfl (fun q => by replace q := (h_eq _ _).1 q; exact absurd q (by decide)) (fun _ => ?_)
            refine Run.pure hK (seg := [(166, .iconst 1, 1), (167, .goto 4, 3)]) (by decide +kernel) (pc' := 171) (L' := #[.val (.int i0), .val (.int i1), .val (.int i2), .val (.int i3), .val (.int i4), .val (.int c0), .val (.int c1), .val (.int c2), .val (.int (2 : Int32)), .val (.int (1 : Int32)), .val (.int (1 : Int32)), .val (.int (0 : Int32)), .val (.int cb), .val (.int (1 : Int32)), .unset, .unset, .unset, .unset, .unset, .unset]) (S' := [(.int (1 : Int32)), (.int (((2 : Int32) + (2 : Int32)) + (Int32.ofNat m0)))]) rfl ?_
            exact t1 1 (Or.inl ⟨rfl, hr⟩)
          · refine Run.ifz hK (cd := .eq) (o := 7) (by decide +kernel) (by decide) (pc' := 170) rfl (fun _ => ?_) (fun q => by replace q := (h_eq _ _).2 q; exact absurd rfl q)
            refine Run.pure hK (seg := [(170, .iconst 0, 1)]) (by decide +kernel) (pc' := 171) (L' := #[.val (.int i0), .val (.int i1), .val (.int i2), .val (.int i3), .val (.int i4), .val (.int c0), .val (.int c1), .val (.int c2), .val (.int (2 : Int32)), .val (.int (1 : Int32)), .val (.int (1 : Int32)), .val (.int (0 : Int32)), .val (.int cb), .val (.int (1 : Int32)), .unset, .unset, .unset, .unset, .unset, .unset]) (S' := [(.int (0 : Int32)), (.int (((2 : Int32) + (2 : Int32)) + (Int32.ofNat m0)))]) rfl ?_
            exact t1 0 (Or.inr ⟨rfl, hr⟩)
        intro E1 hE1
        obtain ⟨m1, rfl, hm1, hb1⟩ := e1_len hE1
        refine Run.pure hK (seg := [(171, .iadd, 1), (172, .iload 11, 2)]) (by decide +kernel) (pc' := 174) (L' := #[.val (.int i0), .val (.int i1), .val (.int i2), .val (.int i3), .val (.int i4), .val (.int c0), .val (.int c1), .val (.int c2), .val (.int (2 : Int32)), .val (.int (1 : Int32)), .val (.int (1 : Int32)), .val (.int (0 : Int32)), .val (.int cb), .val (.int (1 : Int32)), .unset, .unset, .unset, .unset, .unset, .unset]) (S' := [(.int (0 : Int32)), (.int ((((2 : Int32) + (2 : Int32)) + (Int32.ofNat m0)) + (Int32.ofNat m1)))]) rfl ?_
        refine Run.ifz hK (cd := .eq) (o := 15) (by decide +kernel) (by decide) (pc' := 189) rfl (fun _ => ?_) (fun q => by replace q := (h_eq _ _).2 q; exact absurd rfl q)
        refine Run.pure hK (seg := [(189, .iconst 0, 1)]) (by decide +kernel) (pc' := 190) (L' := #[.val (.int i0), .val (.int i1), .val (.int i2), .val (.int i3), .val (.int i4), .val (.int c0), .val (.int c1), .val (.int c2), .val (.int (2 : Int32)), .val (.int (1 : Int32)), .val (.int (1 : Int32)), .val (.int (0 : Int32)), .val (.int cb), .val (.int (1 : Int32)), .unset, .unset, .unset, .unset, .unset, .unset]) (S' := [(.int (0 : Int32)), (.int ((((2 : Int32) + (2 : Int32)) + (Int32.ofNat m0)) + (Int32.ofNat m1)))]) rfl ?_
        refine Run.pure hK (seg := [(190, .iadd, 1)]) (by decide +kernel) (pc' := 191) (L' := #[.val (.int i0), .val (.int i1), .val (.int i2), .val (.int i3), .val (.int i4), .val (.int c0), .val (.int c1), .val (.int c2), .val (.int (2 : Int32)), .val (.int (1 : Int32)), .val (.int (1 : Int32)), .val (.int (0 : Int32)), .val (.int cb), .val (.int (1 : Int32)), .unset, .unset, .unset, .unset, .unset, .unset]) (S' := [(.int (((((2 : Int32) + (2 : Int32)) + (Int32.ofNat m0)) + (Int32.ofNat m1)) + (0 : Int32)))]) rfl ?_
        have bl1 : (body 1 ([c0, c1] : List Int32)).length = 4 + m0 + m1 := by
          rw [q_len]
          show (e1 1 c0 ++ (e1 1 c1 ++ (([] : List Int32)))).length + 2 = _
          simp only [List.length_append, List.length_nil, hm0, hm1]
          omega
        have el : (((((2 : Int32) + (2 : Int32)) + (Int32.ofNat m0)) + (Int32.ofNat m1)) + (0 : Int32)) = Int32.ofNat (body 1 ([c0, c1] : List Int32)).length := by
          rw [bl1]
          show (((2 : Int32) + (2 : Int32)) + Int32.ofNat m0 + Int32.ofNat m1 + (0 : Int32)) = _
          rw [show (2 : Int32) + (2 : Int32) = Int32.ofNat 4 from rfl, ofN_add (by omega), ofN_add (by omega)]
          simp only [show (0 : Int32) = Int32.ofNat 0 from rfl]
          rw [ofN_add (by omega)]
          congr 1
        rw [el]
        refine Run.pure hK (seg := [(191, .istore 14, 2), (193, .goto 7, 3)]) (by decide +kernel) (pc' := 200) (L' := #[.val (.int i0), .val (.int i1), .val (.int i2), .val (.int i3), .val (.int i4), .val (.int c0), .val (.int c1), .val (.int c2), .val (.int (2 : Int32)), .val (.int (1 : Int32)), .val (.int (1 : Int32)), .val (.int (0 : Int32)), .val (.int cb), .val (.int (1 : Int32)), .val (.int (Int32.ofNat (body 1 ([c0, c1] : List Int32)).length)), .unset, .unset, .unset, .unset, .unset]) (S' := []) rfl ?_
        exact s200 (by omega)
      · refine Run.pure hK (seg := [(125, .iload 13, 2)]) (by decide +kernel) (pc' := 127) (L' := #[.val (.int i0), .val (.int i1), .val (.int i2), .val (.int i3), .val (.int i4), .val (.int c0), .val (.int c1), .val (.int c2), .val (.int (2 : Int32)), .val (.int (1 : Int32)), .val (.int (1 : Int32)), .val (.int (0 : Int32)), .val (.int cb), .val (.int (0 : Int32)), .unset, .unset, .unset, .unset, .unset, .unset]) (S' := [(.int (0 : Int32))]) rfl ?_
        refine Run.ifz hK (cd := .eq) (o := 69) (by decide +kernel) (by decide) (pc' := 196) rfl (fun _ => ?_) (fun q => by replace q := (h_eq _ _).2 q; exact absurd rfl q)
        refine Run.pure hK (seg := [(196, .iload 8, 2), (198, .istore 14, 2)]) (by decide +kernel) (pc' := 200) (L' := #[.val (.int i0), .val (.int i1), .val (.int i2), .val (.int i3), .val (.int i4), .val (.int c0), .val (.int c1), .val (.int c2), .val (.int (2 : Int32)), .val (.int (1 : Int32)), .val (.int (1 : Int32)), .val (.int (0 : Int32)), .val (.int cb), .val (.int (0 : Int32)), .val (.int (2 : Int32)), .unset, .unset, .unset, .unset, .unset]) (S' := []) rfl ?_
        exact s200 (by show ([c0, c1] : List Int32).length ≤ 8; simp)
    intro hb8
    refine Run.pure hK (seg := [(200, .bipush 8, 2), (202, .iload 14, 2), (204, .isub, 1)]) (by decide +kernel) (pc' := 205) (L' := #[.val (.int i0), .val (.int i1), .val (.int i2), .val (.int i3), .val (.int i4), .val (.int c0), .val (.int c1), .val (.int c2), .val (.int (2 : Int32)), .val (.int (1 : Int32)), .val (.int (1 : Int32)), .val (.int (0 : Int32)), .val (.int cb), .val (.int q), .val (.int (Int32.ofNat (body q ([c0, c1] : List Int32)).length)), .unset, .unset, .unset, .unset, .unset]) (S' := [(.int ((8 : Int32) - (Int32.ofNat (body q ([c0, c1] : List Int32)).length)))]) rfl ?_
    rw [show (8 : Int32) - Int32.ofNat (body q ([c0, c1] : List Int32)).length = Int32.ofNat (8 - (body q ([c0, c1] : List Int32)).length) from ofN_sub (n := 8) (by omega) hb8]
    refine Run.pure hK (seg := [(205, .istore 15, 2), (207, .iload_n 3, 1), (208, .iconst 3, 1), (209, .iushr, 1), (210, .bipush 15, 2), (212, .iand, 1), (213, .iload 15, 2), (215, .iconst 1, 1), (216, .iadd, 1)]) (by decide +kernel) (pc' := 217) (L' := #[.val (.int i0), .val (.int i1), .val (.int i2), .val (.int i3), .val (.int i4), .val (.int c0), .val (.int c1), .val (.int c2), .val (.int (2 : Int32)), .val (.int (1 : Int32)), .val (.int (1 : Int32)), .val (.int (0 : Int32)), .val (.int cb), .val (.int q), .val (.int (Int32.ofNat (body q ([c0, c1] : List Int32)).length)), .val (.int (Int32.ofNat (8 - (body q ([c0, c1] : List Int32)).length))), .unset, .unset, .unset, .unset]) (S' := [(.int ((Int32.ofNat (8 - (body q ([c0, c1] : List Int32)).length)) + (1 : Int32))), (.int ((XT.ushr i3 (3 : Int32)) &&& (15 : Int32)))]) rfl ?_
    obtain ⟨lo, e_l, hl8⟩ := rem_le (x := XT.ushr i3 3) (p := 8 - (body q ([c0, c1] : List Int32)).length) (by omega)
    refine Run.irem hK (by decide +kernel) (fun z => by have y := congrArg Int32.toInt z; rw [show Int32.ofNat (8 - (body q ([c0, c1] : List Int32)).length) + (1 : Int32) = Int32.ofNat (8 - (body q ([c0, c1] : List Int32)).length + 1) from ofN_add (n := 8 - (body q ([c0, c1] : List Int32)).length) (m := 1) (by omega), ofN (by omega), tI0] at y; omega) ?_
    rw [e_l]
    refine Run.pure hK (seg := [(218, .istore 16, 2), (220, .bipush 8, 2)]) (by decide +kernel) (pc' := 222) (L' := #[.val (.int i0), .val (.int i1), .val (.int i2), .val (.int i3), .val (.int i4), .val (.int c0), .val (.int c1), .val (.int c2), .val (.int (2 : Int32)), .val (.int (1 : Int32)), .val (.int (1 : Int32)), .val (.int (0 : Int32)), .val (.int cb), .val (.int q), .val (.int (Int32.ofNat (body q ([c0, c1] : List Int32)).length)), .val (.int (Int32.ofNat (8 - (body q ([c0, c1] : List Int32)).length))), .val (.int (Int32.ofNat lo)), .unset, .unset, .unset]) (S' := [(.int (8 : Int32))]) rfl ?_
    refine Run.newarr hK (aty := .char) (hw _ (List.mem_of_getElem? (i := 11) rfl)) (by decide +kernel) (by decide) (cap := 8) (by decide) (by decide) (by decide) (by decide) (fun hd kd Ed Ad => ?_)
    obtain ⟨ad, zd⟩ : ∃ z, z = hp2.size := ⟨_, rfl⟩
    rw [← zd]
    rw [← zd] at Ad
    have gd : hp2.size ≤ ad := by rw [zd]; exact Nat.le_refl _
    have gdz := Nat.le_trans hO.1 gd
    refine Run.less (W' := []) ?_ (fun _ q => nomatch q)
    refine Run.pure hK (seg := [(224, .astore 17, 2), (226, .aload 17, 2), (228, .iconst 0, 1), (229, .iload 4, 2), (231, .iconst 0, 1)]) (by decide +kernel) (pc' := 232) (L' := #[.val (.int i0), .val (.int i1), .val (.int i2), .val (.int i3), .val (.int i4), .val (.int c0), .val (.int c1), .val (.int c2), .val (.int (2 : Int32)), .val (.int (1 : Int32)), .val (.int (1 : Int32)), .val (.int (0 : Int32)), .val (.int cb), .val (.int q), .val (.int (Int32.ofNat (body q ([c0, c1] : List Int32)).length)), .val (.int (Int32.ofNat (8 - (body q ([c0, c1] : List Int32)).length))), .val (.int (Int32.ofNat lo)), .val (.ref ad), .unset, .unset]) (S' := [(.int (0 : Int32)), (.int i4), (.int (0 : Int32)), (.ref ad)]) rfl ?_
    refine Run.static hK (index := 21) (y := (⟨"com/example/libidem/libidem/http/KeyHeaderParsePinLaw", "blank", "(II)C"⟩ : MethodName)) (Wt := 2) (kc := 0) (ks := 0) (hw _ (List.mem_of_getElem? (i := 12) rfl)) (hw _ (List.mem_of_getElem? (i := 13) rfl)) (hw _ (List.mem_of_getElem? (i := 2) rfl)) (hw _ (List.mem_of_getElem? (i := 14) rfl)) (by decide) (W' := []) (fun _ q => nomatch q) (Ctr.cal (c_blk G i4 (0 : Int32) hd) (hw _ (List.mem_of_getElem? (i := 14) rfl)) (hw _ (List.mem_of_getElem? (i := 2) rfl)) (by decide) (by decide)) rfl (argsL := [(.int i4), (.int (0 : Int32))]) (rest := [(.int (0 : Int32)), (.ref ad)]) (lenOf pd_blk rfl) rfl (Nat.le_of_ble_eq_true rfl) (by decide +kernel) (by decide) (by decide) (fun vf0 hf0 qf0 nf0 => ?_)
    obtain ⟨rfl, r0, rfl, bl0, br0⟩ := qf0
    refine Run.cst hK Ad ⟨by decide, by decide⟩ gdz (by decide +kernel) (fun hd0 Wd0 Bd => ?_)
    replace Ad : Arv Z hd0 ad kd .char 8 [(.int r0), (.int (0 : Int32)), (.int (0 : Int32)), (.int (0 : Int32)), (.int (0 : Int32)), (.int (0 : Int32)), (.int (0 : Int32)), (.int (0 : Int32))] (.int 0) := by rw [nc br0] at Bd; exact Bd
    clear Bd
    have K0_ := Wd0
    refine Run.pure hK (seg := [(236, .aload 17, 2), (238, .iconst 1, 1), (239, .iload 4, 2), (241, .iconst 1, 1)]) (by decide +kernel) (pc' := 242) (L' := #[.val (.int i0), .val (.int i1), .val (.int i2), .val (.int i3), .val (.int i4), .val (.int c0), .val (.int c1), .val (.int c2), .val (.int (2 : Int32)), .val (.int (1 : Int32)), .val (.int (1 : Int32)), .val (.int (0 : Int32)), .val (.int cb), .val (.int q), .val (.int (Int32.ofNat (body q ([c0, c1] : List Int32)).length)), .val (.int (Int32.ofNat (8 - (body q ([c0, c1] : List Int32)).length))), .val (.int (Int32.ofNat lo)), .val (.ref ad), .unset, .unset]) (S' := [(.int (1 : Int32)), (.int i4), (.int (1 : Int32)), (.ref ad)]) rfl ?_
    refine Run.static hK (index := 21) (y := (⟨"com/example/libidem/libidem/http/KeyHeaderParsePinLaw", "blank", "(II)C"⟩ : MethodName)) (Wt := 2) (kc := 0) (ks := 0) (hw _ (List.mem_of_getElem? (i := 12) rfl)) (hw _ (List.mem_of_getElem? (i := 13) rfl)) (hw _ (List.mem_of_getElem? (i := 2) rfl)) (hw _ (List.mem_of_getElem? (i := 14) rfl)) (by decide) (W' := []) (fun _ q => nomatch q) (Ctr.cal (c_blk G i4 (1 : Int32) hd0) (hw _ (List.mem_of_getElem? (i := 14) rfl)) (hw _ (List.mem_of_getElem? (i := 2) rfl)) (by decide) (by decide)) rfl (argsL := [(.int i4), (.int (1 : Int32))]) (rest := [(.int (1 : Int32)), (.ref ad)]) (lenOf pd_blk rfl) rfl (Nat.le_of_ble_eq_true rfl) (by decide +kernel) (by decide) (by decide) (fun vf1 hf1 qf1 nf1 => ?_)
    obtain ⟨rfl, r1, rfl, bl1, br1⟩ := qf1
    refine Run.cst hK Ad ⟨by decide, by decide⟩ gdz (by decide +kernel) (fun hd1 Wd1 Bd => ?_)
    replace Ad : Arv Z hd1 ad kd .char 8 [(.int r0), (.int r1), (.int (0 : Int32)), (.int (0 : Int32)), (.int (0 : Int32)), (.int (0 : Int32)), (.int (0 : Int32)), (.int (0 : Int32))] (.int 0) := by rw [nc br1] at Bd; exact Bd
    clear Bd
    have K1_ := Wd1
    refine Run.pure hK (seg := [(246, .aload 17, 2), (248, .iconst 2, 1), (249, .iload 4, 2), (251, .iconst 2, 1)]) (by decide +kernel) (pc' := 252) (L' := #[.val (.int i0), .val (.int i1), .val (.int i2), .val (.int i3), .val (.int i4), .val (.int c0), .val (.int c1), .val (.int c2), .val (.int (2 : Int32)), .val (.int (1 : Int32)), .val (.int (1 : Int32)), .val (.int (0 : Int32)), .val (.int cb), .val (.int q), .val (.int (Int32.ofNat (body q ([c0, c1] : List Int32)).length)), .val (.int (Int32.ofNat (8 - (body q ([c0, c1] : List Int32)).length))), .val (.int (Int32.ofNat lo)), .val (.ref ad), .unset, .unset]) (S' := [(.int (2 : Int32)), (.int i4), (.int (2 : Int32)), (.ref ad)]) rfl ?_
    refine Run.static hK (index := 21) (y := (⟨"com/example/libidem/libidem/http/KeyHeaderParsePinLaw", "blank", "(II)C"⟩ : MethodName)) (Wt := 2) (kc := 0) (ks := 0) (hw _ (List.mem_of_getElem? (i := 12) rfl)) (hw _ (List.mem_of_getElem? (i := 13) rfl)) (hw _ (List.mem_of_getElem? (i := 2) rfl)) (hw _ (List.mem_of_getElem? (i := 14) rfl)) (by decide) (W' := []) (fun _ q => nomatch q) (Ctr.cal (c_blk G i4 (2 : Int32) hd1) (hw _ (List.mem_of_getElem? (i := 14) rfl)) (hw _ (List.mem_of_getElem? (i := 2) rfl)) (by decide) (by decide)) rfl (argsL := [(.int i4), (.int (2 : Int32))]) (rest := [(.int (2 : Int32)), (.ref ad)]) (lenOf pd_blk rfl) rfl (Nat.le_of_ble_eq_true rfl) (by decide +kernel) (by decide) (by decide) (fun vf2 hf2 qf2 nf2 => ?_)
    obtain ⟨rfl, r2, rfl, bl2, br2⟩ := qf2
    refine Run.cst hK Ad ⟨by decide, by decide⟩ gdz (by decide +kernel) (fun hd2 Wd2 Bd => ?_)
    replace Ad : Arv Z hd2 ad kd .char 8 [(.int r0), (.int r1), (.int r2), (.int (0 : Int32)), (.int (0 : Int32)), (.int (0 : Int32)), (.int (0 : Int32)), (.int (0 : Int32))] (.int 0) := by rw [nc br2] at Bd; exact Bd
    clear Bd
    have K2_ := Wd2
    refine Run.pure hK (seg := [(256, .aload 17, 2), (258, .iconst 3, 1), (259, .iload 4, 2), (261, .iconst 3, 1)]) (by decide +kernel) (pc' := 262) (L' := #[.val (.int i0), .val (.int i1), .val (.int i2), .val (.int i3), .val (.int i4), .val (.int c0), .val (.int c1), .val (.int c2), .val (.int (2 : Int32)), .val (.int (1 : Int32)), .val (.int (1 : Int32)), .val (.int (0 : Int32)), .val (.int cb), .val (.int q), .val (.int (Int32.ofNat (body q ([c0, c1] : List Int32)).length)), .val (.int (Int32.ofNat (8 - (body q ([c0, c1] : List Int32)).length))), .val (.int (Int32.ofNat lo)), .val (.ref ad), .unset, .unset]) (S' := [(.int (3 : Int32)), (.int i4), (.int (3 : Int32)), (.ref ad)]) rfl ?_
    refine Run.static hK (index := 21) (y := (⟨"com/example/libidem/libidem/http/KeyHeaderParsePinLaw", "blank", "(II)C"⟩ : MethodName)) (Wt := 2) (kc := 0) (ks := 0) (hw _ (List.mem_of_getElem? (i := 12) rfl)) (hw _ (List.mem_of_getElem? (i := 13) rfl)) (hw _ (List.mem_of_getElem? (i := 2) rfl)) (hw _ (List.mem_of_getElem? (i := 14) rfl)) (by decide) (W' := []) (fun _ q => nomatch q) (Ctr.cal (c_blk G i4 (3 : Int32) hd2) (hw _ (List.mem_of_getElem? (i := 14) rfl)) (hw _ (List.mem_of_getElem? (i := 2) rfl)) (by decide) (by decide)) rfl (argsL := [(.int i4), (.int (3 : Int32))]) (rest := [(.int (3 : Int32)), (.ref ad)]) (lenOf pd_blk rfl) rfl (Nat.le_of_ble_eq_true rfl) (by decide +kernel) (by decide) (by decide) (fun vf3 hf3 qf3 nf3 => ?_)
    obtain ⟨rfl, r3, rfl, bl3, br3⟩ := qf3
    refine Run.cst hK Ad ⟨by decide, by decide⟩ gdz (by decide +kernel) (fun hd3 Wd3 Bd => ?_)
    replace Ad : Arv Z hd3 ad kd .char 8 [(.int r0), (.int r1), (.int r2), (.int r3), (.int (0 : Int32)), (.int (0 : Int32)), (.int (0 : Int32)), (.int (0 : Int32))] (.int 0) := by rw [nc br3] at Bd; exact Bd
    clear Bd
    have K3_ := Wd3
    refine Run.pure hK (seg := [(266, .aload 17, 2), (268, .iconst 4, 1), (269, .iload 4, 2), (271, .iconst 4, 1)]) (by decide +kernel) (pc' := 272) (L' := #[.val (.int i0), .val (.int i1), .val (.int i2), .val (.int i3), .val (.int i4), .val (.int c0), .val (.int c1), .val (.int c2), .val (.int (2 : Int32)), .val (.int (1 : Int32)), .val (.int (1 : Int32)), .val (.int (0 : Int32)), .val (.int cb), .val (.int q), .val (.int (Int32.ofNat (body q ([c0, c1] : List Int32)).length)), .val (.int (Int32.ofNat (8 - (body q ([c0, c1] : List Int32)).length))), .val (.int (Int32.ofNat lo)), .val (.ref ad), .unset, .unset]) (S' := [(.int (4 : Int32)), (.int i4), (.int (4 : Int32)), (.ref ad)]) rfl ?_
    refine Run.static hK (index := 21) (y := (⟨"com/example/libidem/libidem/http/KeyHeaderParsePinLaw", "blank", "(II)C"⟩ : MethodName)) (Wt := 2) (kc := 0) (ks := 0) (hw _ (List.mem_of_getElem? (i := 12) rfl)) (hw _ (List.mem_of_getElem? (i := 13) rfl)) (hw _ (List.mem_of_getElem? (i := 2) rfl)) (hw _ (List.mem_of_getElem? (i := 14) rfl)) (by decide) (W' := []) (fun _ q => nomatch q) (Ctr.cal (c_blk G i4 (4 : Int32) hd3) (hw _ (List.mem_of_getElem? (i := 14) rfl)) (hw _ (List.mem_of_getElem? (i := 2) rfl)) (by decide) (by decide)) rfl (argsL := [(.int i4), (.int (4 : Int32))]) (rest := [(.int (4 : Int32)), (.ref ad)]) (lenOf pd_blk rfl) rfl (Nat.le_of_ble_eq_true rfl) (by decide +kernel) (by decide) (by decide) (fun vf4 hf4 qf4 nf4 => ?_)
    obtain ⟨rfl, r4, rfl, bl4, br4⟩ := qf4
    refine Run.cst hK Ad ⟨by decide, by decide⟩ gdz (by decide +kernel) (fun hd4 Wd4 Bd => ?_)
    replace Ad : Arv Z hd4 ad kd .char 8 [(.int r0), (.int r1), (.int r2), (.int r3), (.int r4), (.int (0 : Int32)), (.int (0 : Int32)), (.int (0 : Int32))] (.int 0) := by rw [nc br4] at Bd; exact Bd
    clear Bd
    have K4_ := Wd4
    refine Run.pure hK (seg := [(276, .aload 17, 2), (278, .iconst 5, 1), (279, .iload 4, 2), (281, .iconst 5, 1)]) (by decide +kernel) (pc' := 282) (L' := #[.val (.int i0), .val (.int i1), .val (.int i2), .val (.int i3), .val (.int i4), .val (.int c0), .val (.int c1), .val (.int c2), .val (.int (2 : Int32)), .val (.int (1 : Int32)), .val (.int (1 : Int32)), .val (.int (0 : Int32)), .val (.int cb), .val (.int q), .val (.int (Int32.ofNat (body q ([c0, c1] : List Int32)).length)), .val (.int (Int32.ofNat (8 - (body q ([c0, c1] : List Int32)).length))), .val (.int (Int32.ofNat lo)), .val (.ref ad), .unset, .unset]) (S' := [(.int (5 : Int32)), (.int i4), (.int (5 : Int32)), (.ref ad)]) rfl ?_
    refine Run.static hK (index := 21) (y := (⟨"com/example/libidem/libidem/http/KeyHeaderParsePinLaw", "blank", "(II)C"⟩ : MethodName)) (Wt := 2) (kc := 0) (ks := 0) (hw _ (List.mem_of_getElem? (i := 12) rfl)) (hw _ (List.mem_of_getElem? (i := 13) rfl)) (hw _ (List.mem_of_getElem? (i := 2) rfl)) (hw _ (List.mem_of_getElem? (i := 14) rfl)) (by decide) (W' := []) (fun _ q => nomatch q) (Ctr.cal (c_blk G i4 (5 : Int32) hd4) (hw _ (List.mem_of_getElem? (i := 14) rfl)) (hw _ (List.mem_of_getElem? (i := 2) rfl)) (by decide) (by decide)) rfl (argsL := [(.int i4), (.int (5 : Int32))]) (rest := [(.int (5 : Int32)), (.ref ad)]) (lenOf pd_blk rfl) rfl (Nat.le_of_ble_eq_true rfl) (by decide +kernel) (by decide) (by decide) (fun vf5 hf5 qf5 nf5 => ?_)
    obtain ⟨rfl, r5, rfl, bl5, br5⟩ := qf5
    refine Run.cst hK Ad ⟨by decide, by decide⟩ gdz (by decide +kernel) (fun hd5 Wd5 Bd => ?_)
    replace Ad : Arv Z hd5 ad kd .char 8 [(.int r0), (.int r1), (.int r2), (.int r3), (.int r4), (.int r5), (.int (0 : Int32)), (.int (0 : Int32))] (.int 0) := by rw [nc br5] at Bd; exact Bd
    clear Bd
    have K5_ := Wd5
    refine Run.pure hK (seg := [(286, .aload 17, 2), (288, .bipush 6, 2), (290, .iload 4, 2), (292, .bipush 6, 2)]) (by decide +kernel) (pc' := 294) (L' := #[.val (.int i0), .val (.int i1), .val (.int i2), .val (.int i3), .val (.int i4), .val (.int c0), .val (.int c1), .val (.int c2), .val (.int (2 : Int32)), .val (.int (1 : Int32)), .val (.int (1 : Int32)), .val (.int (0 : Int32)), .val (.int cb), .val (.int q), .val (.int (Int32.ofNat (body q ([c0, c1] : List Int32)).length)), .val (.int (Int32.ofNat (8 - (body q ([c0, c1] : List Int32)).length))), .val (.int (Int32.ofNat lo)), .val (.ref ad), .unset, .unset]) (S' := [(.int (6 : Int32)), (.int i4), (.int (6 : Int32)), (.ref ad)]) rfl ?_
    refine Run.static hK (index := 21) (y := (⟨"com/example/libidem/libidem/http/KeyHeaderParsePinLaw", "blank", "(II)C"⟩ : MethodName)) (Wt := 2) (kc := 0) (ks := 0) (hw _ (List.mem_of_getElem? (i := 12) rfl)) (hw _ (List.mem_of_getElem? (i := 13) rfl)) (hw _ (List.mem_of_getElem? (i := 2) rfl)) (hw _ (List.mem_of_getElem? (i := 14) rfl)) (by decide) (W' := []) (fun _ q => nomatch q) (Ctr.cal (c_blk G i4 (6 : Int32) hd5) (hw _ (List.mem_of_getElem? (i := 14) rfl)) (hw _ (List.mem_of_getElem? (i := 2) rfl)) (by decide) (by decide)) rfl (argsL := [(.int i4), (.int (6 : Int32))]) (rest := [(.int (6 : Int32)), (.ref ad)]) (lenOf pd_blk rfl) rfl (Nat.le_of_ble_eq_true rfl) (by decide +kernel) (by decide) (by decide) (fun vf6 hf6 qf6 nf6 => ?_)
    obtain ⟨rfl, r6, rfl, bl6, br6⟩ := qf6
    refine Run.cst hK Ad ⟨by decide, by decide⟩ gdz (by decide +kernel) (fun hd6 Wd6 Bd => ?_)
    replace Ad : Arv Z hd6 ad kd .char 8 [(.int r0), (.int r1), (.int r2), (.int r3), (.int r4), (.int r5), (.int r6), (.int (0 : Int32))] (.int 0) := by rw [nc br6] at Bd; exact Bd
    clear Bd
    have K6_ := Wd6
    refine Run.pure hK (seg := [(298, .aload 17, 2), (300, .bipush 7, 2), (302, .iload 4, 2), (304, .bipush 7, 2)]) (by decide +kernel) (pc' := 306) (L' := #[.val (.int i0), .val (.int i1), .val (.int i2), .val (.int i3), .val (.int i4), .val (.int c0), .val (.int c1), .val (.int c2), .val (.int (2 : Int32)), .val (.int (1 : Int32)), .val (.int (1 : Int32)), .val (.int (0 : Int32)), .val (.int cb), .val (.int q), .val (.int (Int32.ofNat (body q ([c0, c1] : List Int32)).length)), .val (.int (Int32.ofNat (8 - (body q ([c0, c1] : List Int32)).length))), .val (.int (Int32.ofNat lo)), .val (.ref ad), .unset, .unset]) (S' := [(.int (7 : Int32)), (.int i4), (.int (7 : Int32)), (.ref ad)]) rfl ?_
    refine Run.static hK (index := 21) (y := (⟨"com/example/libidem/libidem/http/KeyHeaderParsePinLaw", "blank", "(II)C"⟩ : MethodName)) (Wt := 2) (kc := 0) (ks := 0) (hw _ (List.mem_of_getElem? (i := 12) rfl)) (hw _ (List.mem_of_getElem? (i := 13) rfl)) (hw _ (List.mem_of_getElem? (i := 2) rfl)) (hw _ (List.mem_of_getElem? (i := 14) rfl)) (by decide) (W' := []) (fun _ q => nomatch q) (Ctr.cal (c_blk G i4 (7 : Int32) hd6) (hw _ (List.mem_of_getElem? (i := 14) rfl)) (hw _ (List.mem_of_getElem? (i := 2) rfl)) (by decide) (by decide)) rfl (argsL := [(.int i4), (.int (7 : Int32))]) (rest := [(.int (7 : Int32)), (.ref ad)]) (lenOf pd_blk rfl) rfl (Nat.le_of_ble_eq_true rfl) (by decide +kernel) (by decide) (by decide) (fun vf7 hf7 qf7 nf7 => ?_)
    obtain ⟨rfl, r7, rfl, bl7, br7⟩ := qf7
    refine Run.cst hK Ad ⟨by decide, by decide⟩ gdz (by decide +kernel) (fun hd7 Wd7 Bd => ?_)
    replace Ad : Arv Z hd7 ad kd .char 8 [(.int r0), (.int r1), (.int r2), (.int r3), (.int r4), (.int r5), (.int r6), (.int r7)] (.int 0) := by rw [nc br7] at Bd; exact Bd
    clear Bd
    have K7_ := Wd7
    obtain ⟨Bl, e_Bl⟩ : ∃ z : List Int32, z = [r0, r1, r2, r3, r4, r5, r6, r7] := ⟨_, rfl⟩
    have hB : Bl.length = 8 := by rw [e_Bl]; rfl
    have hbr : ∀ c ∈ Bl, bl c ∧ ¬ c < 0 ∧ ¬ (255 : Int32) < c := fun c hc => by
      rw [e_Bl] at hc; simp only [List.mem_cons, List.not_mem_nil, or_false] at hc
      rcases hc with rfl | rfl | rfl | rfl | rfl | rfl | rfl | rfl
      · exact ⟨bl0, br0⟩
      · exact ⟨bl1, br1⟩
      · exact ⟨bl2, br2⟩
      · exact ⟨bl3, br3⟩
      · exact ⟨bl4, br4⟩
      · exact ⟨bl5, br5⟩
      · exact ⟨bl6, br6⟩
      · exact ⟨bl7, br7⟩
    have A0 : Arv Z hd7 ad kd .char 8 ((Sp Bl lo []).map Value.int) (.int 0) := by rw [Sp_nil, e_Bl]; exact Ad
    have hll : lo + (body q ([c0, c1] : List Int32)).length ≤ 8 := by omega
    rw [body_pre] at hll
    refine Run.pure hK (seg := [(310, .iload 16, 2), (312, .istore 18, 2)]) (by decide +kernel) (pc' := 314) (L' := #[.val (.int i0), .val (.int i1), .val (.int i2), .val (.int i3), .val (.int i4), .val (.int c0), .val (.int c1), .val (.int c2), .val (.int (2 : Int32)), .val (.int (1 : Int32)), .val (.int (1 : Int32)), .val (.int (0 : Int32)), .val (.int cb), .val (.int q), .val (.int (Int32.ofNat (body q ([c0, c1] : List Int32)).length)), .val (.int (Int32.ofNat (8 - (body q ([c0, c1] : List Int32)).length))), .val (.int (Int32.ofNat lo)), .val (.ref ad), .val (.int (Int32.ofNat lo)), .unset]) (S' := []) rfl ?_
    suffices s329 : ∀ f1 : Heap, Arv Z f1 ad kd .char 8 ((Sp Bl lo (pre q)).map Value.int) (.int 0) → Run Z consts_1 false K (fun v h' => v = some (.int 1)) [] f1 1 8 329 #[.val (.int i0), .val (.int i1), .val (.int i2), .val (.int i3), .val (.int i4), .val (.int c0), .val (.int c1), .val (.int c2), .val (.int (2 : Int32)), .val (.int (1 : Int32)), .val (.int (1 : Int32)), .val (.int (0 : Int32)), .val (.int cb), .val (.int q), .val (.int (Int32.ofNat (body q ([c0, c1] : List Int32)).length)), .val (.int (Int32.ofNat (8 - (body q ([c0, c1] : List Int32)).length))), .val (.int (Int32.ofNat lo)), .val (.ref ad), .val (.int (Int32.ofNat (lo + (pre q).length))), .unset] [] by
      refine Run.pure hK (seg := [(314, .iload 13, 2)]) (by decide +kernel) (pc' := 316) (L' := #[.val (.int i0), .val (.int i1), .val (.int i2), .val (.int i3), .val (.int i4), .val (.int c0), .val (.int c1), .val (.int c2), .val (.int (2 : Int32)), .val (.int (1 : Int32)), .val (.int (1 : Int32)), .val (.int (0 : Int32)), .val (.int cb), .val (.int q), .val (.int (Int32.ofNat (body q ([c0, c1] : List Int32)).length)), .val (.int (Int32.ofNat (8 - (body q ([c0, c1] : List Int32)).length))), .val (.int (Int32.ofNat lo)), .val (.ref ad), .val (.int (Int32.ofNat lo)), .unset]) (S' := [(.int q)]) rfl ?_
      refine Run.ifz hK (cd := .eq) (o := 13) (by decide +kernel) (by decide) (pc' := 329) rfl (fun r1 => ?_) (fun r1 => ?_)
      · replace r1 := (h_eq _ _).1 r1
        have pq : pre q = [] := if_pos r1
        rw [pq] at s329
        exact s329 _ A0
      · replace r1 := (h_eq _ _).2 r1
        have pq : pre q = [34] := if_neg r1
        rw [pq] at s329 hll
        simp only [List.length_append, List.length_cons, List.length_nil] at hll
        refine Run.pure hK (seg := [(319, .aload 17, 2), (321, .iload 18, 2), (323, .bipush 34, 2)]) (by decide +kernel) (pc' := 325) (L' := #[.val (.int i0), .val (.int i1), .val (.int i2), .val (.int i3), .val (.int i4), .val (.int c0), .val (.int c1), .val (.int c2), .val (.int (2 : Int32)), .val (.int (1 : Int32)), .val (.int (1 : Int32)), .val (.int (0 : Int32)), .val (.int cb), .val (.int q), .val (.int (Int32.ofNat (body q ([c0, c1] : List Int32)).length)), .val (.int (Int32.ofNat (8 - (body q ([c0, c1] : List Int32)).length))), .val (.int (Int32.ofNat lo)), .val (.ref ad), .val (.int (Int32.ofNat lo)), .unset]) (S' := [(.int (34 : Int32)), (.int (Int32.ofNat lo)), (.ref ad)]) rfl ?_
        refine Run.cst hK A0 ⟨ofN_nn (by omega), by rw [Int32.lt_iff_toInt_lt, ofN (by omega), show (8 : Int32).toInt = 8 from rfl]; omega⟩ gdz (by decide +kernel) (fun hg Wg Bg => ?_)
        have Ag : Arv Z hg ad kd .char 8 ((Sp Bl lo ([] ++ [(34 : Int32)])).map Value.int) (.int 0) := by
          rw [← Sp_set (w := ([] : List Int32)) (by show lo + 0 < _; omega), List.map_set]; rw [ofN_nat (by omega : lo ≤ 4000)] at Bg
          exact Bg.pad (set_pad2 _ _ (by rw [List.length_map, Sp_len (by show lo + 0 ≤ _; omega)]; show lo + 0 < _; omega))
        refine Run.pure hK (seg := [(326, .iinc 18 1, 3)]) (by decide +kernel) (pc' := 329) (L' := #[.val (.int i0), .val (.int i1), .val (.int i2), .val (.int i3), .val (.int i4), .val (.int c0), .val (.int c1), .val (.int c2), .val (.int (2 : Int32)), .val (.int (1 : Int32)), .val (.int (1 : Int32)), .val (.int (0 : Int32)), .val (.int cb), .val (.int q), .val (.int (Int32.ofNat (body q ([c0, c1] : List Int32)).length)), .val (.int (Int32.ofNat (8 - (body q ([c0, c1] : List Int32)).length))), .val (.int (Int32.ofNat lo)), .val (.ref ad), .val (.int ((Int32.ofNat lo) + (1 : Int32))), .unset]) (S' := []) rfl ?_
        rw [show Int32.ofNat lo + (1 : Int32) = Int32.ofNat (lo + ([34] : List Int32).length) from ofN_add (n := lo) (m := 1) (by omega)]
        exact s329 _ Ag
    intro f1 A1
    refine Run.pure hK (seg := [(329, .aload 17, 2), (331, .iload 18, 2), (333, .iload 9, 2), (335, .iload 5, 2), (337, .iload 13, 2)]) (by decide +kernel) (pc' := 339) (L' := #[.val (.int i0), .val (.int i1), .val (.int i2), .val (.int i3), .val (.int i4), .val (.int c0), .val (.int c1), .val (.int c2), .val (.int (2 : Int32)), .val (.int (1 : Int32)), .val (.int (1 : Int32)), .val (.int (0 : Int32)), .val (.int cb), .val (.int q), .val (.int (Int32.ofNat (body q ([c0, c1] : List Int32)).length)), .val (.int (Int32.ofNat (8 - (body q ([c0, c1] : List Int32)).length))), .val (.int (Int32.ofNat lo)), .val (.ref ad), .val (.int (Int32.ofNat (lo + (pre q).length))), .unset]) (S' := [(.int q), (.int c0), (.int (1 : Int32)), (.int (Int32.ofNat (lo + (pre q).length))), (.ref ad)]) rfl ?_
    refine Run.static hK (index := 25) (y := (⟨"com/example/libidem/libidem/http/KeyHeaderParsePinLaw", "put", "([CIZCZ)I"⟩ : MethodName)) (Wt := 0) (kc := 0) (ks := 0) (hw _ (List.mem_of_getElem? (i := 15) rfl)) (hw _ (List.mem_of_getElem? (i := 16) rfl)) (hw _ (List.mem_of_getElem? (i := 2) rfl)) (hw _ (List.mem_of_getElem? (i := 17) rfl)) (by decide) (W' := []) (fun _ q => nomatch q) (Ctr.cal (c_put G ad (1 : Int32) c0 q lo f1 A1 gdz hB (by rw [if_neg (by decide : ¬ (1 : Int32) = 0)]; have z := hll; simp only [List.length_append, List.length_nil, enc] at z ⊢; omega) (prt_in p0)) (hw _ (List.mem_of_getElem? (i := 17) rfl)) (hw _ (List.mem_of_getElem? (i := 2) rfl)) (by decide) (by decide)) rfl (argsL := [(.ref ad), (.int (Int32.ofNat (lo + (pre q).length))), (.int (1 : Int32)), (.int c0), (.int q)]) (rest := []) (lenOf pd_pt rfl) rfl (Nat.le_of_ble_eq_true rfl) (by decide +kernel) (by decide) (by decide) (fun vu0 hu0 qu0 nu0 => ?_)
    obtain ⟨rfl, Au0, Ku0⟩ := qu0
    rw [if_neg (by decide : ¬ (1 : Int32) = 0)]
    rw [if_neg (by decide : ¬ (1 : Int32) = 0)] at Au0
    refine Run.pure hK (seg := [(342, .istore 18, 2), (344, .aload 17, 2), (346, .iload 18, 2), (348, .iload 10, 2), (350, .iload 6, 2), (352, .iload 13, 2)]) (by decide +kernel) (pc' := 354) (L' := #[.val (.int i0), .val (.int i1), .val (.int i2), .val (.int i3), .val (.int i4), .val (.int c0), .val (.int c1), .val (.int c2), .val (.int (2 : Int32)), .val (.int (1 : Int32)), .val (.int (1 : Int32)), .val (.int (0 : Int32)), .val (.int cb), .val (.int q), .val (.int (Int32.ofNat (body q ([c0, c1] : List Int32)).length)), .val (.int (Int32.ofNat (8 - (body q ([c0, c1] : List Int32)).length))), .val (.int (Int32.ofNat lo)), .val (.ref ad), .val (.int (Int32.ofNat (lo + ((pre q) ++ e1 q c0).length))), .unset]) (S' := [(.int q), (.int c1), (.int (1 : Int32)), (.int (Int32.ofNat (lo + ((pre q) ++ e1 q c0).length))), (.ref ad)]) rfl ?_
    refine Run.static hK (index := 25) (y := (⟨"com/example/libidem/libidem/http/KeyHeaderParsePinLaw", "put", "([CIZCZ)I"⟩ : MethodName)) (Wt := 0) (kc := 0) (ks := 0) (hw _ (List.mem_of_getElem? (i := 15) rfl)) (hw _ (List.mem_of_getElem? (i := 16) rfl)) (hw _ (List.mem_of_getElem? (i := 2) rfl)) (hw _ (List.mem_of_getElem? (i := 17) rfl)) (by decide) (W' := []) (fun _ q => nomatch q) (Ctr.cal (c_put G ad (1 : Int32) c1 q lo hu0 Au0 gdz hB (by rw [if_neg (by decide : ¬ (1 : Int32) = 0)]; have z := hll; simp only [List.length_append, List.length_nil, enc] at z ⊢; omega) (prt_in p1)) (hw _ (List.mem_of_getElem? (i := 17) rfl)) (hw _ (List.mem_of_getElem? (i := 2) rfl)) (by decide) (by decide)) rfl (argsL := [(.ref ad), (.int (Int32.ofNat (lo + ((pre q) ++ e1 q c0).length))), (.int (1 : Int32)), (.int c1), (.int q)]) (rest := []) (lenOf pd_pt rfl) rfl (Nat.le_of_ble_eq_true rfl) (by decide +kernel) (by decide) (by decide) (fun vu1 hu1 qu1 nu1 => ?_)
    obtain ⟨rfl, Au1, Ku1⟩ := qu1
    rw [if_neg (by decide : ¬ (1 : Int32) = 0)]
    rw [if_neg (by decide : ¬ (1 : Int32) = 0)] at Au1
    refine Run.pure hK (seg := [(357, .istore 18, 2), (359, .aload 17, 2), (361, .iload 18, 2), (363, .iload 11, 2), (365, .iload 7, 2), (367, .iload 13, 2)]) (by decide +kernel) (pc' := 369) (L' := #[.val (.int i0), .val (.int i1), .val (.int i2), .val (.int i3), .val (.int i4), .val (.int c0), .val (.int c1), .val (.int c2), .val (.int (2 : Int32)), .val (.int (1 : Int32)), .val (.int (1 : Int32)), .val (.int (0 : Int32)), .val (.int cb), .val (.int q), .val (.int (Int32.ofNat (body q ([c0, c1] : List Int32)).length)), .val (.int (Int32.ofNat (8 - (body q ([c0, c1] : List Int32)).length))), .val (.int (Int32.ofNat lo)), .val (.ref ad), .val (.int (Int32.ofNat (lo + (((pre q) ++ e1 q c0) ++ e1 q c1).length))), .unset]) (S' := [(.int q), (.int c2), (.int (0 : Int32)), (.int (Int32.ofNat (lo + (((pre q) ++ e1 q c0) ++ e1 q c1).length))), (.ref ad)]) rfl ?_
    refine Run.static hK (index := 25) (y := (⟨"com/example/libidem/libidem/http/KeyHeaderParsePinLaw", "put", "([CIZCZ)I"⟩ : MethodName)) (Wt := 0) (kc := 0) (ks := 0) (hw _ (List.mem_of_getElem? (i := 15) rfl)) (hw _ (List.mem_of_getElem? (i := 16) rfl)) (hw _ (List.mem_of_getElem? (i := 2) rfl)) (hw _ (List.mem_of_getElem? (i := 17) rfl)) (by decide) (W' := []) (fun _ q => nomatch q) (Ctr.cal (c_put G ad (0 : Int32) c2 q lo hu1 Au1 gdz hB (by rw [if_pos (rfl : (0 : Int32) = 0), List.append_nil (((pre q) ++ e1 q c0) ++ e1 q c1)]; have z := hll; simp only [List.length_append, List.length_nil, enc] at z ⊢; omega) (prt_in p2)) (hw _ (List.mem_of_getElem? (i := 17) rfl)) (hw _ (List.mem_of_getElem? (i := 2) rfl)) (by decide) (by decide)) rfl (argsL := [(.ref ad), (.int (Int32.ofNat (lo + (((pre q) ++ e1 q c0) ++ e1 q c1).length))), (.int (0 : Int32)), (.int c2), (.int q)]) (rest := []) (lenOf pd_pt rfl) rfl (Nat.le_of_ble_eq_true rfl) (by decide +kernel) (by decide) (by decide) (fun vu2 hu2 qu2 nu2 => ?_)
    obtain ⟨rfl, Au2, Ku2⟩ := qu2
    rw [if_pos (rfl : (0 : Int32) = 0), List.append_nil (((pre q) ++ e1 q c0) ++ e1 q c1)]
    rw [if_pos (rfl : (0 : Int32) = 0), List.append_nil (((pre q) ++ e1 q c0) ++ e1 q c1)] at Au2
    have eW : (((pre q) ++ e1 q c0) ++ e1 q c1) = (pre q ++ enc q ([c0, c1] : List Int32)) := by
      show _ = pre q ++ (e1 q c0 ++ (e1 q c1 ++ []))
      simp only [List.append_nil, List.append_assoc]
    rw [eW] at Au2
    refine Run.pure hK (seg := [(372, .istore 18, 2)]) (by decide +kernel) (pc' := 374) (L' := #[.val (.int i0), .val (.int i1), .val (.int i2), .val (.int i3), .val (.int i4), .val (.int c0), .val (.int c1), .val (.int c2), .val (.int (2 : Int32)), .val (.int (1 : Int32)), .val (.int (1 : Int32)), .val (.int (0 : Int32)), .val (.int cb), .val (.int q), .val (.int (Int32.ofNat (body q ([c0, c1] : List Int32)).length)), .val (.int (Int32.ofNat (8 - (body q ([c0, c1] : List Int32)).length))), .val (.int (Int32.ofNat lo)), .val (.ref ad), .val (.int (Int32.ofNat (lo + (((pre q) ++ e1 q c0) ++ e1 q c1).length))), .unset]) (S' := []) rfl ?_
    rw [eW]
    suffices s389 : ∀ (f2 : Heap) (o18 : Slot), Arv Z f2 ad kd .char 8 ((Sp Bl lo (body q ([c0, c1] : List Int32))).map Value.int) (.int 0) → Run Z consts_1 false K (fun v h' => v = some (.int 1)) [] f2 1 8 389 #[.val (.int i0), .val (.int i1), .val (.int i2), .val (.int i3), .val (.int i4), .val (.int c0), .val (.int c1), .val (.int c2), .val (.int (2 : Int32)), .val (.int (1 : Int32)), .val (.int (1 : Int32)), .val (.int (0 : Int32)), .val (.int cb), .val (.int q), .val (.int (Int32.ofNat (body q ([c0, c1] : List Int32)).length)), .val (.int (Int32.ofNat (8 - (body q ([c0, c1] : List Int32)).length))), .val (.int (Int32.ofNat lo)), .val (.ref ad), o18, .unset] [] by
      refine Run.pure hK (seg := [(374, .iload 13, 2)]) (by decide +kernel) (pc' := 376) (L' := #[.val (.int i0), .val (.int i1), .val (.int i2), .val (.int i3), .val (.int i4), .val (.int c0), .val (.int c1), .val (.int c2), .val (.int (2 : Int32)), .val (.int (1 : Int32)), .val (.int (1 : Int32)), .val (.int (0 : Int32)), .val (.int cb), .val (.int q), .val (.int (Int32.ofNat (body q ([c0, c1] : List Int32)).length)), .val (.int (Int32.ofNat (8 - (body q ([c0, c1] : List Int32)).length))), .val (.int (Int32.ofNat lo)), .val (.ref ad), .val (.int (Int32.ofNat (lo + (pre q ++ enc q ([c0, c1] : List Int32)).length))), .unset]) (S' := [(.int q)]) rfl ?_
      refine Run.ifz hK (cd := .eq) (o := 13) (by decide +kernel) (by decide) (pc' := 389) rfl (fun r1 => ?_) (fun r1 => ?_)
      · replace r1 := (h_eq _ _).1 r1
        have pq : pre q = [] := if_pos r1
        have eb : body q ([c0, c1] : List Int32) = (pre q ++ enc q ([c0, c1] : List Int32)) := by rw [body_pre]; rw [pq, List.append_nil]
        have A9 : Arv Z hu2 ad kd .char 8 ((Sp Bl lo (body q ([c0, c1] : List Int32))).map Value.int) (.int 0) := by rw [eb]; exact Au2
        exact s389 _ _ A9
      · replace r1 := (h_eq _ _).2 r1
        have pq : pre q = [34] := if_neg r1
        have eb : body q ([c0, c1] : List Int32) = (pre q ++ enc q ([c0, c1] : List Int32)) ++ [(34 : Int32)] := by rw [body_pre]; rw [show pre q = [34] from pq]
        have lw : lo + (pre q ++ enc q ([c0, c1] : List Int32)).length < 8 := by rw [List.length_append] at hll; rw [pq] at hll; simp only [List.length_append, List.length_cons, List.length_nil] at hll ⊢; rw [pq]; simp only [List.length_cons, List.length_nil]; omega
        refine Run.pure hK (seg := [(379, .aload 17, 2), (381, .iload 18, 2), (383, .bipush 34, 2)]) (by decide +kernel) (pc' := 385) (L' := #[.val (.int i0), .val (.int i1), .val (.int i2), .val (.int i3), .val (.int i4), .val (.int c0), .val (.int c1), .val (.int c2), .val (.int (2 : Int32)), .val (.int (1 : Int32)), .val (.int (1 : Int32)), .val (.int (0 : Int32)), .val (.int cb), .val (.int q), .val (.int (Int32.ofNat (body q ([c0, c1] : List Int32)).length)), .val (.int (Int32.ofNat (8 - (body q ([c0, c1] : List Int32)).length))), .val (.int (Int32.ofNat lo)), .val (.ref ad), .val (.int (Int32.ofNat (lo + (pre q ++ enc q ([c0, c1] : List Int32)).length))), .unset]) (S' := [(.int (34 : Int32)), (.int (Int32.ofNat (lo + (pre q ++ enc q ([c0, c1] : List Int32)).length))), (.ref ad)]) rfl ?_
        refine Run.cst hK Au2 ⟨ofN_nn (by omega), by rw [Int32.lt_iff_toInt_lt, ofN (by omega), show (8 : Int32).toInt = 8 from rfl]; omega⟩ gdz (by decide +kernel) (fun hg Wg Bg => ?_)
        have Ag : Arv Z hg ad kd .char 8 ((Sp Bl lo ((pre q ++ enc q ([c0, c1] : List Int32)) ++ [(34 : Int32)])).map Value.int) (.int 0) := by
          rw [← Sp_set (by omega), List.map_set]; rw [ofN_nat (by omega : lo + (pre q ++ enc q ([c0, c1] : List Int32)).length ≤ 4000)] at Bg
          exact Bg.pad (set_pad2 _ _ (by rw [List.length_map, Sp_len (by omega)]; omega))
        refine Run.pure hK (seg := [(386, .iinc 18 1, 3)]) (by decide +kernel) (pc' := 389) (L' := #[.val (.int i0), .val (.int i1), .val (.int i2), .val (.int i3), .val (.int i4), .val (.int c0), .val (.int c1), .val (.int c2), .val (.int (2 : Int32)), .val (.int (1 : Int32)), .val (.int (1 : Int32)), .val (.int (0 : Int32)), .val (.int cb), .val (.int q), .val (.int (Int32.ofNat (body q ([c0, c1] : List Int32)).length)), .val (.int (Int32.ofNat (8 - (body q ([c0, c1] : List Int32)).length))), .val (.int (Int32.ofNat lo)), .val (.ref ad), .val (.int ((Int32.ofNat (lo + (pre q ++ enc q ([c0, c1] : List Int32)).length)) + (1 : Int32))), .unset]) (S' := []) rfl ?_
        rw [← eb] at Ag
        exact s389 _ _ Ag
    intro f2 o18 A2
    rw [← body_pre] at hll
    refine Run.old (fun hO2 => ?_)
    refine Run.new hK (index := 29) (C := "java/lang/String") (n := 4) (hw _ (List.mem_of_getElem? (i := 18) rfl)) (hw _ (List.mem_of_getElem? (i := 19) rfl)) (hw _ (List.mem_of_getElem? (i := 20) rfl)) (by decide +kernel) (by decide) (by decide) (fun hs Es Xs Ds => ?_)
    obtain ⟨as_, zs⟩ : ∃ z, z = f2.size := ⟨_, rfl⟩
    rw [← zs]
    rw [← zs] at Xs Ds
    refine Run.pure hK (seg := [(392, .dup, 1), (393, .aload 17, 2)]) (by decide +kernel) (pc' := 395) (L' := #[.val (.int i0), .val (.int i1), .val (.int i2), .val (.int i3), .val (.int i4), .val (.int c0), .val (.int c1), .val (.int c2), .val (.int (2 : Int32)), .val (.int (1 : Int32)), .val (.int (1 : Int32)), .val (.int (0 : Int32)), .val (.int cb), .val (.int q), .val (.int (Int32.ofNat (body q ([c0, c1] : List Int32)).length)), .val (.int (Int32.ofNat (8 - (body q ([c0, c1] : List Int32)).length))), .val (.int (Int32.ofNat lo)), .val (.ref ad), o18, .unset]) (S' := [(.ref ad), (.ref as_), (.ref as_)]) rfl ?_
    have Vs := Ds (Or.inr (hw _ (List.mem_of_getElem? (i := 46) rfl))) (ty := .array .byte) (by decide)
    have Cs := Ds (Or.inr (hw _ (List.mem_of_getElem? (i := 44) rfl))) (ty := .byte) (by decide)
    have hSl : (Sp Bl lo (body q ([c0, c1] : List Int32))).length = 8 := by rw [Sp_len (by omega)]; exact hB
    refine Run.special hK (index := 31) (y := (⟨"java/lang/String", "<init>", "([C)V"⟩ : MethodName)) (Wt := 1) (kc := 1) (ks := 8) rfl (hw _ (List.mem_of_getElem? (i := 21) rfl)) (hw _ (List.mem_of_getElem? (i := 22) rfl)) (hw _ (List.mem_of_getElem? (i := 23) rfl)) (by decide) (a := as_) (fun _ q => q) (Cal.more (kc' := 1) (ks' := 8) (cal_new1 (g_backV hw) (hw _ (List.mem_of_getElem? (i := 19) rfl)) (by rw [zs]; exact hO2.1) (List.mem_cons_self ..) Xs Vs Cs (A2.ext Es) O2 P5 (by rw [hSl]; rfl) (by omega) (by omega) (fun c hc => (Sp_mem hc).elim (fun z => (hbr c z).2) (fun z => body_in hk c z)) (by decide) (by decide)) (by decide) (by omega)) rfl (argsL := [(.ref ad)]) (rest := [(.ref as_)]) (lenOf pd_s1 rfl) rfl (Nat.le_of_ble_eq_true rfl) (by decide +kernel) (by decide) (by decide) (fun vj hj qj nj => ?_)
    obtain ⟨rfl, Fj, Kj⟩ := qj
    refine Run.static hK (index := 34) (y := (⟨"com/example/libidem/libidem/http/KeyHeader", "parse", "(Ljava/lang/String;)Ljava/lang/String;"⟩ : MethodName)) (Wt := 0) (kc := 8) (ks := 72) (hw _ (List.mem_of_getElem? (i := 47) rfl)) (hw _ (List.mem_of_getElem? (i := 48) rfl)) (hw _ (List.mem_of_getElem? (i := 49) rfl)) (hw _ (List.mem_of_getElem? (i := 50) rfl)) (by decide) (W' := []) (fun _ q => nomatch q) (Ctr.cal (c_par G as_ q lo hj Fj hB (fun c hc => (hbr c hc).1) (by omega) hk (by simp) hq) (hw _ (List.mem_of_getElem? (i := 50) rfl)) (hw _ (List.mem_of_getElem? (i := 49) rfl)) (by decide) (by decide)) rfl (argsL := [(.ref as_)]) (rest := []) (lenOf pd_ss rfl) rfl (Nat.le_of_ble_eq_true rfl) (by decide +kernel) (by decide) (by decide) (fun vP hP qP nP => ?_)
    obtain ⟨aP, rfl, FP⟩ := qP
    refine Run.pure hK (seg := [(401, .astore 19, 2), (403, .aload 19, 2)]) (by decide +kernel) (pc' := 405) (L' := #[.val (.int i0), .val (.int i1), .val (.int i2), .val (.int i3), .val (.int i4), .val (.int c0), .val (.int c1), .val (.int c2), .val (.int (2 : Int32)), .val (.int (1 : Int32)), .val (.int (1 : Int32)), .val (.int (0 : Int32)), .val (.int cb), .val (.int q), .val (.int (Int32.ofNat (body q ([c0, c1] : List Int32)).length)), .val (.int (Int32.ofNat (8 - (body q ([c0, c1] : List Int32)).length))), .val (.int (Int32.ofNat lo)), .val (.ref ad), o18, .val (.ref aP)]) (S' := [(.ref aP)]) rfl ?_
    refine Run.virtual hK (index := 40) (y := (⟨"java/lang/String", "length", "()I"⟩ : MethodName)) (z := (⟨"java/lang/String", "length", "()I"⟩ : MethodName)) (C := "java/lang/String") (Wt := 0) (kc := 0) (ks := 0) (hw _ (List.mem_of_getElem? (i := 213) rfl)) (hw _ (List.mem_of_getElem? (i := 52) rfl)) (nfS (hw _ (List.mem_of_getElem? (i := 54) rfl))) (hw _ (List.mem_of_getElem? (i := 54) rfl)) (hw _ (List.mem_of_getElem? (i := 53) rfl)) (by decide) (a := aP) FP.1 (fun _ q => q) (cal_len (g_lenW hw) (hw _ (List.mem_of_getElem? (i := 19) rfl)) FP O2 P5 (by decide) (by decide)) rfl (argsL := []) (rest := []) (lenOf pd_len rfl) rfl (Nat.le_of_ble_eq_true rfl) (by decide +kernel) (by decide) (by decide) (fun vL hL qL nL => ?_)
    obtain ⟨rfl, rfl⟩ := qL
    rw [show Int32.ofNat ([c0, c1] : List Int32).length = (2 : Int32) from rfl]
    refine Run.pure hK (seg := [(408, .iload 8, 2)]) (by decide +kernel) (pc' := 410) (L' := #[.val (.int i0), .val (.int i1), .val (.int i2), .val (.int i3), .val (.int i4), .val (.int c0), .val (.int c1), .val (.int c2), .val (.int (2 : Int32)), .val (.int (1 : Int32)), .val (.int (1 : Int32)), .val (.int (0 : Int32)), .val (.int cb), .val (.int q), .val (.int (Int32.ofNat (body q ([c0, c1] : List Int32)).length)), .val (.int (Int32.ofNat (8 - (body q ([c0, c1] : List Int32)).length))), .val (.int (Int32.ofNat lo)), .val (.ref ad), o18, .val (.ref aP)]) (S' := [(.int (2 : Int32)), (.int (2 : Int32))]) rfl ?_
    refine Run.icmp hK (cd := .ne) (o := 55) (by decide +kernel) (by decide) (pc' := 465) rfl (fun q => by replace q := (h_ne _ _).1 q; exact absurd rfl q) (fun _ => ?_)
    refine Run.pure hK (seg := [(413, .iload 9, 2)]) (by decide +kernel) (pc' := 415) (L' := #[.val (.int i0), .val (.int i1), .val (.int i2), .val (.int i3), .val (.int i4), .val (.int c0), .val (.int c1), .val (.int c2), .val (.int (2 : Int32)), .val (.int (1 : Int32)), .val (.int (1 : Int32)), .val (.int (0 : Int32)), .val (.int cb), .val (.int q), .val (.int (Int32.ofNat (body q ([c0, c1] : List Int32)).length)), .val (.int (Int32.ofNat (8 - (body q ([c0, c1] : List Int32)).length))), .val (.int (Int32.ofNat lo)), .val (.ref ad), o18, .val (.ref aP)]) (S' := [(.int (1 : Int32))]) rfl ?_
    refine Run.ifz hK (cd := .eq) (o := 14) (by decide +kernel) (by decide) (pc' := 429) rfl (fun q => by replace q := (h_eq _ _).1 q; exact absurd q (by decide)) (fun _ => ?_)
    refine Run.pure hK (seg := [(418, .aload 19, 2), (420, .iconst 0, 1)]) (by decide +kernel) (pc' := 421) (L' := #[.val (.int i0), .val (.int i1), .val (.int i2), .val (.int i3), .val (.int i4), .val (.int c0), .val (.int c1), .val (.int c2), .val (.int (2 : Int32)), .val (.int (1 : Int32)), .val (.int (1 : Int32)), .val (.int (0 : Int32)), .val (.int cb), .val (.int q), .val (.int (Int32.ofNat (body q ([c0, c1] : List Int32)).length)), .val (.int (Int32.ofNat (8 - (body q ([c0, c1] : List Int32)).length))), .val (.int (Int32.ofNat lo)), .val (.ref ad), o18, .val (.ref aP)]) (S' := [(.int (0 : Int32)), (.ref aP)]) rfl ?_
    refine Run.virtual hK (index := 44) (y := (⟨"java/lang/String", "charAt", "(I)C"⟩ : MethodName)) (z := (⟨"java/lang/String", "charAt", "(I)C"⟩ : MethodName)) (C := "java/lang/String") (Wt := 0) (kc := 0) (ks := 0) (hw _ (List.mem_of_getElem? (i := 214) rfl)) (hw _ (List.mem_of_getElem? (i := 62) rfl)) (nfS (hw _ (List.mem_of_getElem? (i := 64) rfl))) (hw _ (List.mem_of_getElem? (i := 64) rfl)) (hw _ (List.mem_of_getElem? (i := 63) rfl)) (by decide) (a := aP) FP.1 (fun _ q => q) (cal_chr (i := 0) (g_chN hw) (hw _ (List.mem_of_getElem? (i := 19) rfl)) FP O2 P5 O4.1 O4.2 (by simp) rfl (by decide) (by decide)) rfl (argsL := [(.int (0 : Int32))]) (rest := []) (lenOf pd_ch rfl) rfl (Nat.le_of_ble_eq_true rfl) (by decide +kernel) (by decide) (by decide) (fun vz0 hz0 qz0 nz0 => ?_)
    obtain ⟨rfl, rfl⟩ := qz0
    rw [show ([c0, c1] : List Int32).getD 0 0 = c0 from rfl]
    refine Run.pure hK (seg := [(424, .iload 5, 2)]) (by decide +kernel) (pc' := 426) (L' := #[.val (.int i0), .val (.int i1), .val (.int i2), .val (.int i3), .val (.int i4), .val (.int c0), .val (.int c1), .val (.int c2), .val (.int (2 : Int32)), .val (.int (1 : Int32)), .val (.int (1 : Int32)), .val (.int (0 : Int32)), .val (.int cb), .val (.int q), .val (.int (Int32.ofNat (body q ([c0, c1] : List Int32)).length)), .val (.int (Int32.ofNat (8 - (body q ([c0, c1] : List Int32)).length))), .val (.int (Int32.ofNat lo)), .val (.ref ad), o18, .val (.ref aP)]) (S' := [(.int c0), (.int c0)]) rfl ?_
    refine Run.icmp hK (cd := .ne) (o := 39) (by decide +kernel) (by decide) (pc' := 465) rfl (fun q => by replace q := (h_ne _ _).1 q; exact absurd rfl q) (fun _ => ?_)
    refine Run.pure hK (seg := [(429, .iload 10, 2)]) (by decide +kernel) (pc' := 431) (L' := #[.val (.int i0), .val (.int i1), .val (.int i2), .val (.int i3), .val (.int i4), .val (.int c0), .val (.int c1), .val (.int c2), .val (.int (2 : Int32)), .val (.int (1 : Int32)), .val (.int (1 : Int32)), .val (.int (0 : Int32)), .val (.int cb), .val (.int q), .val (.int (Int32.ofNat (body q ([c0, c1] : List Int32)).length)), .val (.int (Int32.ofNat (8 - (body q ([c0, c1] : List Int32)).length))), .val (.int (Int32.ofNat lo)), .val (.ref ad), o18, .val (.ref aP)]) (S' := [(.int (1 : Int32))]) rfl ?_
    refine Run.ifz hK (cd := .eq) (o := 14) (by decide +kernel) (by decide) (pc' := 445) rfl (fun q => by replace q := (h_eq _ _).1 q; exact absurd q (by decide)) (fun _ => ?_)
    refine Run.pure hK (seg := [(434, .aload 19, 2), (436, .iconst 1, 1)]) (by decide +kernel) (pc' := 437) (L' := #[.val (.int i0), .val (.int i1), .val (.int i2), .val (.int i3), .val (.int i4), .val (.int c0), .val (.int c1), .val (.int c2), .val (.int (2 : Int32)), .val (.int (1 : Int32)), .val (.int (1 : Int32)), .val (.int (0 : Int32)), .val (.int cb), .val (.int q), .val (.int (Int32.ofNat (body q ([c0, c1] : List Int32)).length)), .val (.int (Int32.ofNat (8 - (body q ([c0, c1] : List Int32)).length))), .val (.int (Int32.ofNat lo)), .val (.ref ad), o18, .val (.ref aP)]) (S' := [(.int (1 : Int32)), (.ref aP)]) rfl ?_
    refine Run.virtual hK (index := 44) (y := (⟨"java/lang/String", "charAt", "(I)C"⟩ : MethodName)) (z := (⟨"java/lang/String", "charAt", "(I)C"⟩ : MethodName)) (C := "java/lang/String") (Wt := 0) (kc := 0) (ks := 0) (hw _ (List.mem_of_getElem? (i := 214) rfl)) (hw _ (List.mem_of_getElem? (i := 62) rfl)) (nfS (hw _ (List.mem_of_getElem? (i := 64) rfl))) (hw _ (List.mem_of_getElem? (i := 64) rfl)) (hw _ (List.mem_of_getElem? (i := 63) rfl)) (by decide) (a := aP) FP.1 (fun _ q => q) (cal_chr (i := 1) (g_chN hw) (hw _ (List.mem_of_getElem? (i := 19) rfl)) FP O2 P5 O4.1 O4.2 (by simp) rfl (by decide) (by decide)) rfl (argsL := [(.int (1 : Int32))]) (rest := []) (lenOf pd_ch rfl) rfl (Nat.le_of_ble_eq_true rfl) (by decide +kernel) (by decide) (by decide) (fun vz1 hz1 qz1 nz1 => ?_)
    obtain ⟨rfl, rfl⟩ := qz1
    rw [show ([c0, c1] : List Int32).getD 1 0 = c1 from rfl]
    refine Run.pure hK (seg := [(440, .iload 6, 2)]) (by decide +kernel) (pc' := 442) (L' := #[.val (.int i0), .val (.int i1), .val (.int i2), .val (.int i3), .val (.int i4), .val (.int c0), .val (.int c1), .val (.int c2), .val (.int (2 : Int32)), .val (.int (1 : Int32)), .val (.int (1 : Int32)), .val (.int (0 : Int32)), .val (.int cb), .val (.int q), .val (.int (Int32.ofNat (body q ([c0, c1] : List Int32)).length)), .val (.int (Int32.ofNat (8 - (body q ([c0, c1] : List Int32)).length))), .val (.int (Int32.ofNat lo)), .val (.ref ad), o18, .val (.ref aP)]) (S' := [(.int c1), (.int c1)]) rfl ?_
    refine Run.icmp hK (cd := .ne) (o := 23) (by decide +kernel) (by decide) (pc' := 465) rfl (fun q => by replace q := (h_ne _ _).1 q; exact absurd rfl q) (fun _ => ?_)
    refine Run.pure hK (seg := [(445, .iload 11, 2)]) (by decide +kernel) (pc' := 447) (L' := #[.val (.int i0), .val (.int i1), .val (.int i2), .val (.int i3), .val (.int i4), .val (.int c0), .val (.int c1), .val (.int c2), .val (.int (2 : Int32)), .val (.int (1 : Int32)), .val (.int (1 : Int32)), .val (.int (0 : Int32)), .val (.int cb), .val (.int q), .val (.int (Int32.ofNat (body q ([c0, c1] : List Int32)).length)), .val (.int (Int32.ofNat (8 - (body q ([c0, c1] : List Int32)).length))), .val (.int (Int32.ofNat lo)), .val (.ref ad), o18, .val (.ref aP)]) (S' := [(.int (0 : Int32))]) rfl ?_
    refine Run.ifz hK (cd := .eq) (o := 14) (by decide +kernel) (by decide) (pc' := 461) rfl (fun _ => ?_) (fun q => by replace q := (h_eq _ _).2 q; exact absurd rfl q)
    refine Run.pure hK (seg := [(461, .iconst 1, 1), (462, .goto 4, 3)]) (by decide +kernel) (pc' := 466) (L' := #[.val (.int i0), .val (.int i1), .val (.int i2), .val (.int i3), .val (.int i4), .val (.int c0), .val (.int c1), .val (.int c2), .val (.int (2 : Int32)), .val (.int (1 : Int32)), .val (.int (1 : Int32)), .val (.int (0 : Int32)), .val (.int cb), .val (.int q), .val (.int (Int32.ofNat (body q ([c0, c1] : List Int32)).length)), .val (.int (Int32.ofNat (8 - (body q ([c0, c1] : List Int32)).length))), .val (.int (Int32.ofNat lo)), .val (.ref ad), o18, .val (.ref aP)]) (S' := [(.int (1 : Int32))]) rfl ?_
    exact Run.retw hK (i := .ireturn) rfl (Or.inl ⟨rfl, Or.inr (Or.inl rfl), _, rfl⟩) (by decide +kernel) (by decide) (by decide) rfl
  · have hk : ∀ c ∈ ([c0, c1, c2] : List Int32), prt c := fun c hc => by simp only [List.mem_cons, List.not_mem_nil, or_false] at hc; rcases hc with rfl | rfl | rfl; exact p0; exact p1; exact p2
    refine Run.pure hK (seg := [(21, .istore 8, 2), (23, .iload 8, 2)]) (by decide +kernel) (pc' := 25) (L' := #[.val (.int i0), .val (.int i1), .val (.int i2), .val (.int i3), .val (.int i4), .val (.int c0), .val (.int c1), .val (.int c2), .val (.int (3 : Int32)), .unset, .unset, .unset, .unset, .unset, .unset, .unset, .unset, .unset, .unset, .unset]) (S' := [(.int (3 : Int32))]) rfl ?_
    refine Run.ifz hK (cd := .le) (o := 7) (by decide +kernel) (by decide) (pc' := 32) rfl (fun q => by replace q := (h_le _ _).1 q; exact absurd (by decide) q) (fun _ => ?_)
    refine Run.pure hK (seg := [(28, .iconst 1, 1), (29, .goto 4, 3)]) (by decide +kernel) (pc' := 33) (L' := #[.val (.int i0), .val (.int i1), .val (.int i2), .val (.int i3), .val (.int i4), .val (.int c0), .val (.int c1), .val (.int c2), .val (.int (3 : Int32)), .unset, .unset, .unset, .unset, .unset, .unset, .unset, .unset, .unset, .unset, .unset]) (S' := [(.int (1 : Int32))]) rfl ?_
    refine Run.pure hK (seg := [(33, .istore 9, 2), (35, .iload 8, 2), (37, .iconst 1, 1)]) (by decide +kernel) (pc' := 38) (L' := #[.val (.int i0), .val (.int i1), .val (.int i2), .val (.int i3), .val (.int i4), .val (.int c0), .val (.int c1), .val (.int c2), .val (.int (3 : Int32)), .val (.int (1 : Int32)), .unset, .unset, .unset, .unset, .unset, .unset, .unset, .unset, .unset, .unset]) (S' := [(.int (1 : Int32)), (.int (3 : Int32))]) rfl ?_
    refine Run.icmp hK (cd := .le) (o := 7) (by decide +kernel) (by decide) (pc' := 45) rfl (fun q => by replace q := (h_le _ _).1 q; exact absurd (by decide) q) (fun _ => ?_)
    refine Run.pure hK (seg := [(41, .iconst 1, 1), (42, .goto 4, 3)]) (by decide +kernel) (pc' := 46) (L' := #[.val (.int i0), .val (.int i1), .val (.int i2), .val (.int i3), .val (.int i4), .val (.int c0), .val (.int c1), .val (.int c2), .val (.int (3 : Int32)), .val (.int (1 : Int32)), .unset, .unset, .unset, .unset, .unset, .unset, .unset, .unset, .unset, .unset]) (S' := [(.int (1 : Int32))]) rfl ?_
    refine Run.pure hK (seg := [(46, .istore 10, 2), (48, .iload 8, 2), (50, .iconst 2, 1)]) (by decide +kernel) (pc' := 51) (L' := #[.val (.int i0), .val (.int i1), .val (.int i2), .val (.int i3), .val (.int i4), .val (.int c0), .val (.int c1), .val (.int c2), .val (.int (3 : Int32)), .val (.int (1 : Int32)), .val (.int (1 : Int32)), .unset, .unset, .unset, .unset, .unset, .unset, .unset, .unset, .unset]) (S' := [(.int (2 : Int32)), (.int (3 : Int32))]) rfl ?_
    refine Run.icmp hK (cd := .le) (o := 7) (by decide +kernel) (by decide) (pc' := 58) rfl (fun q => by replace q := (h_le _ _).1 q; exact absurd (by decide) q) (fun _ => ?_)
    refine Run.pure hK (seg := [(54, .iconst 1, 1), (55, .goto 4, 3)]) (by decide +kernel) (pc' := 59) (L' := #[.val (.int i0), .val (.int i1), .val (.int i2), .val (.int i3), .val (.int i4), .val (.int c0), .val (.int c1), .val (.int c2), .val (.int (3 : Int32)), .val (.int (1 : Int32)), .val (.int (1 : Int32)), .unset, .unset, .unset, .unset, .unset, .unset, .unset, .unset, .unset]) (S' := [(.int (1 : Int32))]) rfl ?_
    refine Run.pure hK (seg := [(59, .istore 11, 2), (61, .iload 9, 2)]) (by decide +kernel) (pc' := 63) (L' := #[.val (.int i0), .val (.int i1), .val (.int i2), .val (.int i3), .val (.int i4), .val (.int c0), .val (.int c1), .val (.int c2), .val (.int (3 : Int32)), .val (.int (1 : Int32)), .val (.int (1 : Int32)), .val (.int (1 : Int32)), .unset, .unset, .unset, .unset, .unset, .unset, .unset, .unset]) (S' := [(.int (1 : Int32))]) rfl ?_
    suffices s105 : ∀ cb : Int32, ((cb = 1 ∧ ∀ c ∈ ([c0, c1, c2] : List Int32), bok c) ∨ cb = 0) → Run Z consts_1 false K (fun v h' => v = some (.int 1)) [] hp2 0 0 105 #[.val (.int i0), .val (.int i1), .val (.int i2), .val (.int i3), .val (.int i4), .val (.int c0), .val (.int c1), .val (.int c2), .val (.int (3 : Int32)), .val (.int (1 : Int32)), .val (.int (1 : Int32)), .val (.int (1 : Int32)), .unset, .unset, .unset, .unset, .unset, .unset, .unset, .unset] [(.int cb)] by
      refine Run.ifz hK (cd := .eq) (o := 11) (by decide +kernel) (by decide) (pc' := 74) rfl (fun q => by replace q := (h_eq _ _).1 q; exact absurd q (by decide)) (fun _ => ?_)
      refine Run.pure hK (seg := [(66, .iload 5, 2)]) (by decide +kernel) (pc' := 68) (L' := #[.val (.int i0), .val (.int i1), .val (.int i2), .val (.int i3), .val (.int i4), .val (.int c0), .val (.int c1), .val (.int c2), .val (.int (3 : Int32)), .val (.int (1 : Int32)), .val (.int (1 : Int32)), .val (.int (1 : Int32)), .unset, .unset, .unset, .unset, .unset, .unset, .unset, .unset]) (S' := [(.int c0)]) rfl ?_
      refine Run.static hK (index := 18) (y := (⟨"com/example/libidem/libidem/http/KeyHeaderParsePinLaw", "bareOk", "(C)Z"⟩ : MethodName)) (Wt := 0) (kc := 0) (ks := 0) (hw _ (List.mem_of_getElem? (i := 5) rfl)) (hw _ (List.mem_of_getElem? (i := 6) rfl)) (hw _ (List.mem_of_getElem? (i := 2) rfl)) (hw _ (List.mem_of_getElem? (i := 7) rfl)) (by decide) (W' := []) (fun _ q => nomatch q) (Ctr.cal (c_bok G c0 hp2) (hw _ (List.mem_of_getElem? (i := 7) rfl)) (hw _ (List.mem_of_getElem? (i := 2) rfl)) (by decide) (by decide)) rfl (argsL := [(.int c0)]) (rest := []) (lenOf pd_cz rfl) rfl (Nat.le_of_ble_eq_true rfl) (by decide +kernel) (by decide) (by decide) (fun vb0 hb0 qb0 nb0 => ?_)
      obtain ⟨rfl, r0, rfl, hr0⟩ := qb0
      refine Run.ifz hK (cd := .eq) (o := 33) (by decide +kernel) (by decide) (pc' := 104) rfl (fun q => ?_) (fun q0 => ?_)
      · replace q := (h_eq _ _).1 q
        refine Run.pure hK (seg := [(104, .iconst 0, 1)]) (by decide +kernel) (pc' := 105) (L' := #[.val (.int i0), .val (.int i1), .val (.int i2), .val (.int i3), .val (.int i4), .val (.int c0), .val (.int c1), .val (.int c2), .val (.int (3 : Int32)), .val (.int (1 : Int32)), .val (.int (1 : Int32)), .val (.int (1 : Int32)), .unset, .unset, .unset, .unset, .unset, .unset, .unset, .unset]) (S' := [(.int (0 : Int32))]) rfl ?_
        exact s105 0 (Or.inr rfl)
      replace q0 := (h_eq _ _).2 q0
      have bk0 : bok c0 := by rcases hr0 with ⟨-, y⟩ | ⟨y, -⟩; exact y; exact absurd y q0
      refine Run.pure hK (seg := [(74, .iload 10, 2)]) (by decide +kernel) (pc' := 76) (L' := #[.val (.int i0), .val (.int i1), .val (.int i2), .val (.int i3), .val (.int i4), .val (.int c0), .val (.int c1), .val (.int c2), .val (.int (3 : Int32)), .val (.int (1 : Int32)), .val (.int (1 : Int32)), .val (.int (1 : Int32)), .unset, .unset, .unset, .unset, .unset, .unset, .unset, .unset]) (S' := [(.int (1 : Int32))]) rfl ?_
      refine Run.ifz hK (cd := .eq) (o := 11) (by decide +kernel) (by decide) (pc' := 87) rfl (fun q => by replace q := (h_eq _ _).1 q; exact absurd q (by decide)) (fun _ => ?_)
      refine Run.pure hK (seg := [(79, .iload 6, 2)]) (by decide +kernel) (pc' := 81) (L' := #[.val (.int i0), .val (.int i1), .val (.int i2), .val (.int i3), .val (.int i4), .val (.int c0), .val (.int c1), .val (.int c2), .val (.int (3 : Int32)), .val (.int (1 : Int32)), .val (.int (1 : Int32)), .val (.int (1 : Int32)), .unset, .unset, .unset, .unset, .unset, .unset, .unset, .unset]) (S' := [(.int c1)]) rfl ?_
      refine Run.static hK (index := 18) (y := (⟨"com/example/libidem/libidem/http/KeyHeaderParsePinLaw", "bareOk", "(C)Z"⟩ : MethodName)) (Wt := 0) (kc := 0) (ks := 0) (hw _ (List.mem_of_getElem? (i := 5) rfl)) (hw _ (List.mem_of_getElem? (i := 6) rfl)) (hw _ (List.mem_of_getElem? (i := 2) rfl)) (hw _ (List.mem_of_getElem? (i := 7) rfl)) (by decide) (W' := []) (fun _ q => nomatch q) (Ctr.cal (c_bok G c1 hb0) (hw _ (List.mem_of_getElem? (i := 7) rfl)) (hw _ (List.mem_of_getElem? (i := 2) rfl)) (by decide) (by decide)) rfl (argsL := [(.int c1)]) (rest := []) (lenOf pd_cz rfl) rfl (Nat.le_of_ble_eq_true rfl) (by decide +kernel) (by decide) (by decide) (fun vb1 hb1 qb1 nb1 => ?_)
      obtain ⟨rfl, r1, rfl, hr1⟩ := qb1
      refine Run.ifz hK (cd := .eq) (o := 20) (by decide +kernel) (by decide) (pc' := 104) rfl (fun q => ?_) (fun q1 => ?_)
      · replace q := (h_eq _ _).1 q
        refine Run.pure hK (seg := [(104, .iconst 0, 1)]) (by decide +kernel) (pc' := 105) (L' := #[.val (.int i0), .val (.int i1), .val (.int i2), .val (.int i3), .val (.int i4), .val (.int c0), .val (.int c1), .val (.int c2), .val (.int (3 : Int32)), .val (.int (1 : Int32)), .val (.int (1 : Int32)), .val (.int (1 : Int32)), .unset, .unset, .unset, .unset, .unset, .unset, .unset, .unset]) (S' := [(.int (0 : Int32))]) rfl ?_
        exact s105 0 (Or.inr rfl)
      replace q1 := (h_eq _ _).2 q1
      have bk1 : bok c1 := by rcases hr1 with ⟨-, y⟩ | ⟨y, -⟩; exact y; exact absurd y q1
      refine Run.pure hK (seg := [(87, .iload 11, 2)]) (by decide +kernel) (pc' := 89) (L' := #[.val (.int i0), .val (.int i1), .val (.int i2), .val (.int i3), .val (.int i4), .val (.int c0), .val (.int c1), .val (.int c2), .val (.int (3 : Int32)), .val (.int (1 : Int32)), .val (.int (1 : Int32)), .val (.int (1 : Int32)), .unset, .unset, .unset, .unset, .unset, .unset, .unset, .unset]) (S' := [(.int (1 : Int32))]) rfl ?_
      refine Run.ifz hK (cd := .eq) (o := 11) (by decide +kernel) (by decide) (pc' := 100) rfl (fun q => by replace q := (h_eq _ _).1 q; exact absurd q (by decide)) (fun _ => ?_)
      refine Run.pure hK (seg := [(92, .iload 7, 2)]) (by decide +kernel) (pc' := 94) (L' := #[.val (.int i0), .val (.int i1), .val (.int i2), .val (.int i3), .val (.int i4), .val (.int c0), .val (.int c1), .val (.int c2), .val (.int (3 : Int32)), .val (.int (1 : Int32)), .val (.int (1 : Int32)), .val (.int (1 : Int32)), .unset, .unset, .unset, .unset, .unset, .unset, .unset, .unset]) (S' := [(.int c2)]) rfl ?_
      refine Run.static hK (index := 18) (y := (⟨"com/example/libidem/libidem/http/KeyHeaderParsePinLaw", "bareOk", "(C)Z"⟩ : MethodName)) (Wt := 0) (kc := 0) (ks := 0) (hw _ (List.mem_of_getElem? (i := 5) rfl)) (hw _ (List.mem_of_getElem? (i := 6) rfl)) (hw _ (List.mem_of_getElem? (i := 2) rfl)) (hw _ (List.mem_of_getElem? (i := 7) rfl)) (by decide) (W' := []) (fun _ q => nomatch q) (Ctr.cal (c_bok G c2 hb1) (hw _ (List.mem_of_getElem? (i := 7) rfl)) (hw _ (List.mem_of_getElem? (i := 2) rfl)) (by decide) (by decide)) rfl (argsL := [(.int c2)]) (rest := []) (lenOf pd_cz rfl) rfl (Nat.le_of_ble_eq_true rfl) (by decide +kernel) (by decide) (by decide) (fun vb2 hb2 qb2 nb2 => ?_)
      obtain ⟨rfl, r2, rfl, hr2⟩ := qb2
      refine Run.ifz hK (cd := .eq) (o := 7) (by decide +kernel) (by decide) (pc' := 104) rfl (fun q => ?_) (fun q2 => ?_)
      · replace q := (h_eq _ _).1 q
        refine Run.pure hK (seg := [(104, .iconst 0, 1)]) (by decide +kernel) (pc' := 105) (L' := #[.val (.int i0), .val (.int i1), .val (.int i2), .val (.int i3), .val (.int i4), .val (.int c0), .val (.int c1), .val (.int c2), .val (.int (3 : Int32)), .val (.int (1 : Int32)), .val (.int (1 : Int32)), .val (.int (1 : Int32)), .unset, .unset, .unset, .unset, .unset, .unset, .unset, .unset]) (S' := [(.int (0 : Int32))]) rfl ?_
        exact s105 0 (Or.inr rfl)
      replace q2 := (h_eq _ _).2 q2
      have bk2 : bok c2 := by rcases hr2 with ⟨-, y⟩ | ⟨y, -⟩; exact y; exact absurd y q2
      refine Run.pure hK (seg := [(100, .iconst 1, 1), (101, .goto 4, 3)]) (by decide +kernel) (pc' := 105) (L' := #[.val (.int i0), .val (.int i1), .val (.int i2), .val (.int i3), .val (.int i4), .val (.int c0), .val (.int c1), .val (.int c2), .val (.int (3 : Int32)), .val (.int (1 : Int32)), .val (.int (1 : Int32)), .val (.int (1 : Int32)), .unset, .unset, .unset, .unset, .unset, .unset, .unset, .unset]) (S' := [(.int (1 : Int32))]) rfl ?_
      exact s105 1 (Or.inl ⟨rfl, fun c hc => by simp only [List.mem_cons, List.not_mem_nil, or_false] at hc; rcases hc with rfl | rfl | rfl; exact bk0; exact bk1; exact bk2⟩)
    intro cb hcb
    refine Run.pure hK (seg := [(105, .istore 12, 2), (107, .iload_n 3, 1), (108, .iconst 4, 1), (109, .iand, 1)]) (by decide +kernel) (pc' := 110) (L' := #[.val (.int i0), .val (.int i1), .val (.int i2), .val (.int i3), .val (.int i4), .val (.int c0), .val (.int c1), .val (.int c2), .val (.int (3 : Int32)), .val (.int (1 : Int32)), .val (.int (1 : Int32)), .val (.int (1 : Int32)), .val (.int cb), .unset, .unset, .unset, .unset, .unset, .unset, .unset]) (S' := [(.int (i3 &&& (4 : Int32)))]) rfl ?_
    suffices s123 : ∀ q : Int32, (q = 1 ∨ (q = 0 ∧ ∀ c ∈ ([c0, c1, c2] : List Int32), bok c)) → Run Z consts_1 false K (fun v h' => v = some (.int 1)) [] hp2 0 0 123 #[.val (.int i0), .val (.int i1), .val (.int i2), .val (.int i3), .val (.int i4), .val (.int c0), .val (.int c1), .val (.int c2), .val (.int (3 : Int32)), .val (.int (1 : Int32)), .val (.int (1 : Int32)), .val (.int (1 : Int32)), .val (.int cb), .unset, .unset, .unset, .unset, .unset, .unset, .unset] [(.int q)] by
      refine Run.ifz hK (cd := .ne) (o := 8) (by decide +kernel) (by decide) (pc' := 118) rfl (fun r1 => ?_) (fun r1 => ?_)
      · replace r1 := (h_ne _ _).1 r1
        refine Run.pure hK (seg := [(118, .iconst 1, 1), (119, .goto 4, 3)]) (by decide +kernel) (pc' := 123) (L' := #[.val (.int i0), .val (.int i1), .val (.int i2), .val (.int i3), .val (.int i4), .val (.int c0), .val (.int c1), .val (.int c2), .val (.int (3 : Int32)), .val (.int (1 : Int32)), .val (.int (1 : Int32)), .val (.int (1 : Int32)), .val (.int cb), .unset, .unset, .unset, .unset, .unset, .unset, .unset]) (S' := [(.int (1 : Int32))]) rfl ?_
        exact s123 1 (Or.inl rfl)
      · replace r1 := (h_ne _ _).2 r1
        refine Run.pure hK (seg := [(113, .iload 12, 2)]) (by decide +kernel) (pc' := 115) (L' := #[.val (.int i0), .val (.int i1), .val (.int i2), .val (.int i3), .val (.int i4), .val (.int c0), .val (.int c1), .val (.int c2), .val (.int (3 : Int32)), .val (.int (1 : Int32)), .val (.int (1 : Int32)), .val (.int (1 : Int32)), .val (.int cb), .unset, .unset, .unset, .unset, .unset, .unset, .unset]) (S' := [(.int cb)]) rfl ?_
        refine Run.ifz hK (cd := .ne) (o := 7) (by decide +kernel) (by decide) (pc' := 122) rfl (fun r2 => ?_) (fun r2 => ?_)
        · replace r2 := (h_ne _ _).1 r2
          refine Run.pure hK (seg := [(122, .iconst 0, 1)]) (by decide +kernel) (pc' := 123) (L' := #[.val (.int i0), .val (.int i1), .val (.int i2), .val (.int i3), .val (.int i4), .val (.int c0), .val (.int c1), .val (.int c2), .val (.int (3 : Int32)), .val (.int (1 : Int32)), .val (.int (1 : Int32)), .val (.int (1 : Int32)), .val (.int cb), .unset, .unset, .unset, .unset, .unset, .unset, .unset]) (S' := [(.int (0 : Int32))]) rfl ?_
          exact s123 0 (Or.inr ⟨rfl, by rcases hcb with ⟨-, y⟩ | y; exact y; exact absurd y r2⟩)
        · replace r2 := (h_ne _ _).2 r2
          refine Run.pure hK (seg := [(118, .iconst 1, 1), (119, .goto 4, 3)]) (by decide +kernel) (pc' := 123) (L' := #[.val (.int i0), .val (.int i1), .val (.int i2), .val (.int i3), .val (.int i4), .val (.int c0), .val (.int c1), .val (.int c2), .val (.int (3 : Int32)), .val (.int (1 : Int32)), .val (.int (1 : Int32)), .val (.int (1 : Int32)), .val (.int cb), .unset, .unset, .unset, .unset, .unset, .unset, .unset]) (S' := [(.int (1 : Int32))]) rfl ?_
          exact s123 1 (Or.inl rfl)
    intro q hq
    refine Run.pure hK (seg := [(123, .istore 13, 2)]) (by decide +kernel) (pc' := 125) (L' := #[.val (.int i0), .val (.int i1), .val (.int i2), .val (.int i3), .val (.int i4), .val (.int c0), .val (.int c1), .val (.int c2), .val (.int (3 : Int32)), .val (.int (1 : Int32)), .val (.int (1 : Int32)), .val (.int (1 : Int32)), .val (.int cb), .val (.int q), .unset, .unset, .unset, .unset, .unset, .unset]) (S' := []) rfl ?_
    suffices s200 : (body q ([c0, c1, c2] : List Int32)).length ≤ 8 → Run Z consts_1 false K (fun v h' => v = some (.int 1)) [] hp2 0 0 200 #[.val (.int i0), .val (.int i1), .val (.int i2), .val (.int i3), .val (.int i4), .val (.int c0), .val (.int c1), .val (.int c2), .val (.int (3 : Int32)), .val (.int (1 : Int32)), .val (.int (1 : Int32)), .val (.int (1 : Int32)), .val (.int cb), .val (.int q), .val (.int (Int32.ofNat (body q ([c0, c1, c2] : List Int32)).length)), .unset, .unset, .unset, .unset, .unset] [] by
      rcases hq with rfl | ⟨rfl, -⟩
      · refine Run.pure hK (seg := [(125, .iload 13, 2)]) (by decide +kernel) (pc' := 127) (L' := #[.val (.int i0), .val (.int i1), .val (.int i2), .val (.int i3), .val (.int i4), .val (.int c0), .val (.int c1), .val (.int c2), .val (.int (3 : Int32)), .val (.int (1 : Int32)), .val (.int (1 : Int32)), .val (.int (1 : Int32)), .val (.int cb), .val (.int (1 : Int32)), .unset, .unset, .unset, .unset, .unset, .unset]) (S' := [(.int (1 : Int32))]) rfl ?_
        refine Run.ifz hK (cd := .eq) (o := 69) (by decide +kernel) (by decide) (pc' := 196) rfl (fun q => by replace q := (h_eq _ _).1 q; exact absurd q (by decide)) (fun _ => ?_)
        refine Run.pure hK (seg := [(130, .iconst 2, 1), (131, .iload 8, 2), (133, .iadd, 1), (134, .iload 9, 2)]) (by decide +kernel) (pc' := 136) (L' := #[.val (.int i0), .val (.int i1), .val (.int i2), .val (.int i3), .val (.int i4), .val (.int c0), .val (.int c1), .val (.int c2), .val (.int (3 : Int32)), .val (.int (1 : Int32)), .val (.int (1 : Int32)), .val (.int (1 : Int32)), .val (.int cb), .val (.int (1 : Int32)), .unset, .unset, .unset, .unset, .unset, .unset]) (S' := [(.int (1 : Int32)), (.int ((2 : Int32) + (3 : Int32)))]) rfl ?_
        suffices t0 : ∀ E0 : Int32, ((E0 = 1 ∧ (c0 = 34 ∨ c0 = 92)) ∨ (E0 = 0 ∧ ¬ (c0 = 34 ∨ c0 = 92))) → Run Z consts_1 false K (fun v h' => v = some (.int 1)) [] hp2 0 0 152 #[.val (.int i0), .val (.int i1), .val (.int i2), .val (.int i3), .val (.int i4), .val (.int c0), .val (.int c1), .val (.int c2), .val (.int (3 : Int32)), .val (.int (1 : Int32)), .val (.int (1 : Int32)), .val (.int (1 : Int32)), .val (.int cb), .val (.int (1 : Int32)), .unset, .unset, .unset, .unset, .unset, .unset] [(.int E0), (.int ((2 : Int32) + (3 : Int32)))] by
          refine Run.ifz hK (cd := .eq) (o := 15) (by decide +kernel) (by decide) (pc' := 151) rfl (fun q => by replace q := (h_eq _ _).1 q; exact absurd q (by decide)) (fun _ => ?_)
          refine Run.pure hK (seg := [(139, .iload 5, 2)]) (by decide +kernel) (pc' := 141) (L' := #[.val (.int i0), .val (.int i1), .val (.int i2), .val (.int i3), .val (.int i4), .val (.int c0), .val (.int c1), .val (.int c2), .val (.int (3 : Int32)), .val (.int (1 : Int32)), .val (.int (1 : Int32)), .val (.int (1 : Int32)), .val (.int cb), .val (.int (1 : Int32)), .unset, .unset, .unset, .unset, .unset, .unset]) (S' := [(.int c0), (.int ((2 : Int32) + (3 : Int32)))]) rfl ?_
          refine Run.static hK (index := 8) (y := (⟨"com/example/libidem/libidem/http/KeyHeaderParsePinLaw", "esc", "(C)Z"⟩ : MethodName)) (Wt := 1) (kc := 0) (ks := 0) (hw _ (List.mem_of_getElem? (i := 8) rfl)) (hw _ (List.mem_of_getElem? (i := 9) rfl)) (hw _ (List.mem_of_getElem? (i := 2) rfl)) (hw _ (List.mem_of_getElem? (i := 10) rfl)) (by decide) (W' := []) (fun _ q => nomatch q) (Ctr.cal (c_esc G c0 hp2) (hw _ (List.mem_of_getElem? (i := 10) rfl)) (hw _ (List.mem_of_getElem? (i := 2) rfl)) (by decide) (by decide)) rfl (argsL := [(.int c0)]) (rest := [(.int ((2 : Int32) + (3 : Int32)))]) (lenOf pd_cz rfl) rfl (Nat.le_of_ble_eq_true rfl) (by decide +kernel) (by decide) (by decide) (fun ve0 he0 qe0 ne0 => ?_)
          obtain ⟨rfl, r, rfl, hr⟩ := qe0
          rcases hr with ⟨rfl, hr⟩ | ⟨rfl, hr⟩
          · refine Run.ifz hK (cd := .eq) (o := 7) (by decide +kernel) (by decide) (pc' := 151) rfl (fun q => by replace q := (h_eq _ _).1 q; exact absurd q (by decide)) (fun _ => ?_)
            refine Run.pure hK (seg := [(147, .iconst 1, 1), (148, .goto 4, 3)]) (by decide +kernel) (pc' := 152) (L' := #[.val (.int i0), .val (.int i1), .val (.int i2), .val (.int i3), .val (.int i4), .val (.int c0), .val (.int c1), .val (.int c2), .val (.int (3 : Int32)), .val (.int (1 : Int32)), .val (.int (1 : Int32)), .val (.int (1 : Int32)), .val (.int cb), .val (.int (1 : Int32)), .unset, .unset, .unset, .unset, .unset, .unset]) (S' := [(.int (1 : Int32)), (.int ((2 : Int32) + (3 : Int32)))]) rfl ?_
            exact t0 1 (Or.inl ⟨rfl, hr⟩)
          · refine Run.ifz hK (cd := .eq) (o := 7) (by decide +kernel) (by decide) (pc' := 151) rfl (fun _ => ?_) (fun q => by replace q := (h_eq _ _).2 q; exact absurd rfl q)
            refine Run.pure hK (seg := [(151, .iconst 0, 1)]) (by decide +kernel) (pc' := 152) (L' := #[.val (.int i0), .val (.int i1), .val (.int i2), .val (.int i3), .val (.int i4), .val (.int c0), .val (.int c1), .val (.int c2), .val (.int (3 : Int32)), .val (.int (1 : Int32)), .val (.int (1 : Int32)), .val (.int (1 : Int32)), .val (.int cb), .val (.int (1 : Int32)), .unset, .unset, .unset, .unset, .unset, .unset]) (S' := [(.int (0 : Int32)), (.int ((2 : Int32) + (3 : Int32)))]) rfl ?_
            exact t0 0 (Or.inr ⟨rfl, hr⟩)
        intro E0 hE0
        obtain ⟨m0, rfl, hm0, hb0⟩ := e1_len hE0
        refine Run.pure hK (seg := [(152, .iadd, 1), (153, .iload 10, 2)]) (by decide +kernel) (pc' := 155) (L' := #[.val (.int i0), .val (.int i1), .val (.int i2), .val (.int i3), .val (.int i4), .val (.int c0), .val (.int c1), .val (.int c2), .val (.int (3 : Int32)), .val (.int (1 : Int32)), .val (.int (1 : Int32)), .val (.int (1 : Int32)), .val (.int cb), .val (.int (1 : Int32)), .unset, .unset, .unset, .unset, .unset, .unset]) (S' := [(.int (1 : Int32)), (.int (((2 : Int32) + (3 : Int32)) + (Int32.ofNat m0)))]) rfl ?_
        suffices t1 : ∀ E1 : Int32, ((E1 = 1 ∧ (c1 = 34 ∨ c1 = 92)) ∨ (E1 = 0 ∧ ¬ (c1 = 34 ∨ c1 = 92))) → Run Z consts_1 false K (fun v h' => v = some (.int 1)) [] hp2 0 0 171 #[.val (.int i0), .val (.int i1), .val (.int i2), .val (.int i3), .val (.int i4), .val (.int c0), .val (.int c1), .val (.int c2), .val (.int (3 : Int32)), .val (.int (1 : Int32)), .val (.int (1 : Int32)), .val (.int (1 : Int32)), .val (.int cb), .val (.int (1 : Int32)), .unset, .unset, .unset, .unset, .unset, .unset] [(.int E1), (.int (((2 : Int32) + (3 : Int32)) + (Int32.ofNat m0)))] by
          refine Run.ifz hK (cd := .eq) (o := 15) (by decide +kernel) (by decide) (pc' := 170) rfl (fun q => by replace q := (h_eq _ _).1 q; exact absurd q (by decide)) (fun _ => ?_)
          refine Run.pure hK (seg := [(158, .iload 6, 2)]) (by decide +kernel) (pc' := 160) (L' := #[.val (.int i0), .val (.int i1), .val (.int i2), .val (.int i3), .val (.int i4), .val (.int c0), .val (.int c1), .val (.int c2), .val (.int (3 : Int32)), .val (.int (1 : Int32)), .val (.int (1 : Int32)), .val (.int (1 : Int32)), .val (.int cb), .val (.int (1 : Int32)), .unset, .unset, .unset, .unset, .unset, .unset]) (S' := [(.int c1), (.int (((2 : Int32) + (3 : Int32)) + (Int32.ofNat m0)))]) rfl ?_
          refine Run.static hK (index := 8) (y := (⟨"com/example/libidem/libidem/http/KeyHeaderParsePinLaw", "esc", "(C)Z"⟩ : MethodName)) (Wt := 1) (kc := 0) (ks := 0) (hw _ (List.mem_of_getElem? (i := 8) rfl)) (hw _ (List.mem_of_getElem? (i := 9) rfl)) (hw _ (List.mem_of_getElem? (i := 2) rfl)) (hw _ (List.mem_of_getElem? (i := 10) rfl)) (by decide) (W' := []) (fun _ q => nomatch q) (Ctr.cal (c_esc G c1 hp2) (hw _ (List.mem_of_getElem? (i := 10) rfl)) (hw _ (List.mem_of_getElem? (i := 2) rfl)) (by decide) (by decide)) rfl (argsL := [(.int c1)]) (rest := [(.int (((2 : Int32) + (3 : Int32)) + (Int32.ofNat m0)))]) (lenOf pd_cz rfl) rfl (Nat.le_of_ble_eq_true rfl) (by decide +kernel) (by decide) (by decide) (fun ve1 he1 qe1 ne1 => ?_)
          obtain ⟨rfl, r, rfl, hr⟩ := qe1
          rcases hr with ⟨rfl, hr⟩ | ⟨rfl, hr⟩
          · refine Run.ifz hK (cd := .eq) (o := 7) (by decide +kernel) (by decide) (pc' := 170) rfl (fun q => by replace q := (h_eq _ _).1 q; exact absurd q (by decide)) (fun _ => ?_)
            refine Run.pure hK (seg := [(166, .iconst 1, 1), (167, .goto 4, 3)]) (by decide +kernel) (pc' := 171) (L' := #[.val (.int i0), .val (.int i1), .val (.int i2), .val (.int i3), .val (.int i4), .val (.int c0), .val (.int c1), .val (.int c2), .val (.int (3 : Int32)), .val (.int (1 : Int32)), .val (.int (1 : Int32)), .val (.int (1 : Int32)), .val (.int cb), .val (.int (1 : Int32)), .unset, .unset, .unset, .unset, .unset, .unset]) (S' := [(.int (1 : Int32)), (.int (((2 : Int32) + (3 : Int32)) + (Int32.ofNat m0)))]) rfl ?_
            exact t1 1 (Or.inl ⟨rfl, hr⟩)
          · refine Run.ifz hK (cd := .eq) (o := 7) (by decide +kernel) (by decide) (pc' := 170) rfl (fun _ => ?_) (fun q => by replace q := (h_eq _ _).2 q; exact absurd rfl q)
            refine Run.pure hK (seg := [(170, .iconst 0, 1)]) (by decide +kernel) (pc' := 171) (L' := #[.val (.int i0), .val (.int i1), .val (.int i2), .val (.int i3), .val (.int i4), .val (.int c0), .val (.int c1), .val (.int c2), .val (.int (3 : Int32)), .val (.int (1 : Int32)), .val (.int (1 : Int32)), .val (.int (1 : Int32)), .val (.int cb), .val (.int (1 : Int32)), .unset, .unset, .unset, .unset, .unset, .unset]) (S' := [(.int (0 : Int32)), (.int (((2 : Int32) + (3 : Int32)) + (Int32.ofNat m0)))]) rfl ?_
            exact t1 0 (Or.inr ⟨rfl, hr⟩)
        intro E1 hE1
        obtain ⟨m1, rfl, hm1, hb1⟩ := e1_len hE1
        refine Run.pure hK (seg := [(171, .iadd, 1), (172, .iload 11, 2)]) (by decide +kernel) (pc' := 174) (L' := #[.val (.int i0), .val (.int i1), .val (.int i2), .val (.int i3), .val (.int i4), .val (.int c0), .val (.int c1), .val (.int c2), .val (.int (3 : Int32)), .val (.int (1 : Int32)), .val (.int (1 : Int32)), .val (.int (1 : Int32)), .val (.int cb), .val (.int (1 : Int32)), .unset, .unset, .unset, .unset, .unset, .unset]) (S' := [(.int (1 : Int32)), (.int ((((2 : Int32) + (3 : Int32)) + (Int32.ofNat m0)) + (Int32.ofNat m1)))]) rfl ?_
        suffices t2 : ∀ E2 : Int32, ((E2 = 1 ∧ (c2 = 34 ∨ c2 = 92)) ∨ (E2 = 0 ∧ ¬ (c2 = 34 ∨ c2 = 92))) → Run Z consts_1 false K (fun v h' => v = some (.int 1)) [] hp2 0 0 190 #[.val (.int i0), .val (.int i1), .val (.int i2), .val (.int i3), .val (.int i4), .val (.int c0), .val (.int c1), .val (.int c2), .val (.int (3 : Int32)), .val (.int (1 : Int32)), .val (.int (1 : Int32)), .val (.int (1 : Int32)), .val (.int cb), .val (.int (1 : Int32)), .unset, .unset, .unset, .unset, .unset, .unset] [(.int E2), (.int ((((2 : Int32) + (3 : Int32)) + (Int32.ofNat m0)) + (Int32.ofNat m1)))] by
          refine Run.ifz hK (cd := .eq) (o := 15) (by decide +kernel) (by decide) (pc' := 189) rfl (fun q => by replace q := (h_eq _ _).1 q; exact absurd q (by decide)) (fun _ => ?_)
          refine Run.pure hK (seg := [(177, .iload 7, 2)]) (by decide +kernel) (pc' := 179) (L' := #[.val (.int i0), .val (.int i1), .val (.int i2), .val (.int i3), .val (.int i4), .val (.int c0), .val (.int c1), .val (.int c2), .val (.int (3 : Int32)), .val (.int (1 : Int32)), .val (.int (1 : Int32)), .val (.int (1 : Int32)), .val (.int cb), .val (.int (1 : Int32)), .unset, .unset, .unset, .unset, .unset, .unset]) (S' := [(.int c2), (.int ((((2 : Int32) + (3 : Int32)) + (Int32.ofNat m0)) + (Int32.ofNat m1)))]) rfl ?_
          refine Run.static hK (index := 8) (y := (⟨"com/example/libidem/libidem/http/KeyHeaderParsePinLaw", "esc", "(C)Z"⟩ : MethodName)) (Wt := 1) (kc := 0) (ks := 0) (hw _ (List.mem_of_getElem? (i := 8) rfl)) (hw _ (List.mem_of_getElem? (i := 9) rfl)) (hw _ (List.mem_of_getElem? (i := 2) rfl)) (hw _ (List.mem_of_getElem? (i := 10) rfl)) (by decide) (W' := []) (fun _ q => nomatch q) (Ctr.cal (c_esc G c2 hp2) (hw _ (List.mem_of_getElem? (i := 10) rfl)) (hw _ (List.mem_of_getElem? (i := 2) rfl)) (by decide) (by decide)) rfl (argsL := [(.int c2)]) (rest := [(.int ((((2 : Int32) + (3 : Int32)) + (Int32.ofNat m0)) + (Int32.ofNat m1)))]) (lenOf pd_cz rfl) rfl (Nat.le_of_ble_eq_true rfl) (by decide +kernel) (by decide) (by decide) (fun ve2 he2 qe2 ne2 => ?_)
          obtain ⟨rfl, r, rfl, hr⟩ := qe2
          rcases hr with ⟨rfl, hr⟩ | ⟨rfl, hr⟩
          · refine Run.ifz hK (cd := .eq) (o := 7) (by decide +kernel) (by decide) (pc' := 189) rfl (fun q => by replace q := (h_eq _ _).1 q; exact absurd q (by decide)) (fun _ => ?_)
            refine Run.pure hK (seg := [(185, .iconst 1, 1), (186, .goto 4, 3)]) (by decide +kernel) (pc' := 190) (L' := #[.val (.int i0), .val (.int i1), .val (.int i2), .val (.int i3), .val (.int i4), .val (.int c0), .val (.int c1), .val (.int c2), .val (.int (3 : Int32)), .val (.int (1 : Int32)), .val (.int (1 : Int32)), .val (.int (1 : Int32)), .val (.int cb), .val (.int (1 : Int32)), .unset, .unset, .unset, .unset, .unset, .unset]) (S' := [(.int (1 : Int32)), (.int ((((2 : Int32) + (3 : Int32)) + (Int32.ofNat m0)) + (Int32.ofNat m1)))]) rfl ?_
            exact t2 1 (Or.inl ⟨rfl, hr⟩)
          · refine Run.ifz hK (cd := .eq) (o := 7) (by decide +kernel) (by decide) (pc' := 189) rfl (fun _ => ?_) (fun q => by replace q := (h_eq _ _).2 q; exact absurd rfl q)
            refine Run.pure hK (seg := [(189, .iconst 0, 1)]) (by decide +kernel) (pc' := 190) (L' := #[.val (.int i0), .val (.int i1), .val (.int i2), .val (.int i3), .val (.int i4), .val (.int c0), .val (.int c1), .val (.int c2), .val (.int (3 : Int32)), .val (.int (1 : Int32)), .val (.int (1 : Int32)), .val (.int (1 : Int32)), .val (.int cb), .val (.int (1 : Int32)), .unset, .unset, .unset, .unset, .unset, .unset]) (S' := [(.int (0 : Int32)), (.int ((((2 : Int32) + (3 : Int32)) + (Int32.ofNat m0)) + (Int32.ofNat m1)))]) rfl ?_
            exact t2 0 (Or.inr ⟨rfl, hr⟩)
        intro E2 hE2
        obtain ⟨m2, rfl, hm2, hb2⟩ := e1_len hE2
        refine Run.pure hK (seg := [(190, .iadd, 1)]) (by decide +kernel) (pc' := 191) (L' := #[.val (.int i0), .val (.int i1), .val (.int i2), .val (.int i3), .val (.int i4), .val (.int c0), .val (.int c1), .val (.int c2), .val (.int (3 : Int32)), .val (.int (1 : Int32)), .val (.int (1 : Int32)), .val (.int (1 : Int32)), .val (.int cb), .val (.int (1 : Int32)), .unset, .unset, .unset, .unset, .unset, .unset]) (S' := [(.int (((((2 : Int32) + (3 : Int32)) + (Int32.ofNat m0)) + (Int32.ofNat m1)) + (Int32.ofNat m2)))]) rfl ?_
        have bl1 : (body 1 ([c0, c1, c2] : List Int32)).length = 5 + m0 + m1 + m2 := by
          rw [q_len]
          show (e1 1 c0 ++ (e1 1 c1 ++ (e1 1 c2 ++ (([] : List Int32))))).length + 2 = _
          simp only [List.length_append, List.length_nil, hm0, hm1, hm2]
          omega
        have el : (((((2 : Int32) + (3 : Int32)) + (Int32.ofNat m0)) + (Int32.ofNat m1)) + (Int32.ofNat m2)) = Int32.ofNat (body 1 ([c0, c1, c2] : List Int32)).length := by
          rw [bl1]
          show (((2 : Int32) + (3 : Int32)) + Int32.ofNat m0 + Int32.ofNat m1 + Int32.ofNat m2) = _
          rw [show (2 : Int32) + (3 : Int32) = Int32.ofNat 5 from rfl, ofN_add (by omega), ofN_add (by omega), ofN_add (by omega)]
        rw [el]
        refine Run.pure hK (seg := [(191, .istore 14, 2), (193, .goto 7, 3)]) (by decide +kernel) (pc' := 200) (L' := #[.val (.int i0), .val (.int i1), .val (.int i2), .val (.int i3), .val (.int i4), .val (.int c0), .val (.int c1), .val (.int c2), .val (.int (3 : Int32)), .val (.int (1 : Int32)), .val (.int (1 : Int32)), .val (.int (1 : Int32)), .val (.int cb), .val (.int (1 : Int32)), .val (.int (Int32.ofNat (body 1 ([c0, c1, c2] : List Int32)).length)), .unset, .unset, .unset, .unset, .unset]) (S' := []) rfl ?_
        exact s200 (by omega)
      · refine Run.pure hK (seg := [(125, .iload 13, 2)]) (by decide +kernel) (pc' := 127) (L' := #[.val (.int i0), .val (.int i1), .val (.int i2), .val (.int i3), .val (.int i4), .val (.int c0), .val (.int c1), .val (.int c2), .val (.int (3 : Int32)), .val (.int (1 : Int32)), .val (.int (1 : Int32)), .val (.int (1 : Int32)), .val (.int cb), .val (.int (0 : Int32)), .unset, .unset, .unset, .unset, .unset, .unset]) (S' := [(.int (0 : Int32))]) rfl ?_
        refine Run.ifz hK (cd := .eq) (o := 69) (by decide +kernel) (by decide) (pc' := 196) rfl (fun _ => ?_) (fun q => by replace q := (h_eq _ _).2 q; exact absurd rfl q)
        refine Run.pure hK (seg := [(196, .iload 8, 2), (198, .istore 14, 2)]) (by decide +kernel) (pc' := 200) (L' := #[.val (.int i0), .val (.int i1), .val (.int i2), .val (.int i3), .val (.int i4), .val (.int c0), .val (.int c1), .val (.int c2), .val (.int (3 : Int32)), .val (.int (1 : Int32)), .val (.int (1 : Int32)), .val (.int (1 : Int32)), .val (.int cb), .val (.int (0 : Int32)), .val (.int (3 : Int32)), .unset, .unset, .unset, .unset, .unset]) (S' := []) rfl ?_
        exact s200 (by show ([c0, c1, c2] : List Int32).length ≤ 8; simp)
    intro hb8
    refine Run.pure hK (seg := [(200, .bipush 8, 2), (202, .iload 14, 2), (204, .isub, 1)]) (by decide +kernel) (pc' := 205) (L' := #[.val (.int i0), .val (.int i1), .val (.int i2), .val (.int i3), .val (.int i4), .val (.int c0), .val (.int c1), .val (.int c2), .val (.int (3 : Int32)), .val (.int (1 : Int32)), .val (.int (1 : Int32)), .val (.int (1 : Int32)), .val (.int cb), .val (.int q), .val (.int (Int32.ofNat (body q ([c0, c1, c2] : List Int32)).length)), .unset, .unset, .unset, .unset, .unset]) (S' := [(.int ((8 : Int32) - (Int32.ofNat (body q ([c0, c1, c2] : List Int32)).length)))]) rfl ?_
    rw [show (8 : Int32) - Int32.ofNat (body q ([c0, c1, c2] : List Int32)).length = Int32.ofNat (8 - (body q ([c0, c1, c2] : List Int32)).length) from ofN_sub (n := 8) (by omega) hb8]
    refine Run.pure hK (seg := [(205, .istore 15, 2), (207, .iload_n 3, 1), (208, .iconst 3, 1), (209, .iushr, 1), (210, .bipush 15, 2), (212, .iand, 1), (213, .iload 15, 2), (215, .iconst 1, 1), (216, .iadd, 1)]) (by decide +kernel) (pc' := 217) (L' := #[.val (.int i0), .val (.int i1), .val (.int i2), .val (.int i3), .val (.int i4), .val (.int c0), .val (.int c1), .val (.int c2), .val (.int (3 : Int32)), .val (.int (1 : Int32)), .val (.int (1 : Int32)), .val (.int (1 : Int32)), .val (.int cb), .val (.int q), .val (.int (Int32.ofNat (body q ([c0, c1, c2] : List Int32)).length)), .val (.int (Int32.ofNat (8 - (body q ([c0, c1, c2] : List Int32)).length))), .unset, .unset, .unset, .unset]) (S' := [(.int ((Int32.ofNat (8 - (body q ([c0, c1, c2] : List Int32)).length)) + (1 : Int32))), (.int ((XT.ushr i3 (3 : Int32)) &&& (15 : Int32)))]) rfl ?_
    obtain ⟨lo, e_l, hl8⟩ := rem_le (x := XT.ushr i3 3) (p := 8 - (body q ([c0, c1, c2] : List Int32)).length) (by omega)
    refine Run.irem hK (by decide +kernel) (fun z => by have y := congrArg Int32.toInt z; rw [show Int32.ofNat (8 - (body q ([c0, c1, c2] : List Int32)).length) + (1 : Int32) = Int32.ofNat (8 - (body q ([c0, c1, c2] : List Int32)).length + 1) from ofN_add (n := 8 - (body q ([c0, c1, c2] : List Int32)).length) (m := 1) (by omega), ofN (by omega), tI0] at y; omega) ?_
    rw [e_l]
    refine Run.pure hK (seg := [(218, .istore 16, 2), (220, .bipush 8, 2)]) (by decide +kernel) (pc' := 222) (L' := #[.val (.int i0), .val (.int i1), .val (.int i2), .val (.int i3), .val (.int i4), .val (.int c0), .val (.int c1), .val (.int c2), .val (.int (3 : Int32)), .val (.int (1 : Int32)), .val (.int (1 : Int32)), .val (.int (1 : Int32)), .val (.int cb), .val (.int q), .val (.int (Int32.ofNat (body q ([c0, c1, c2] : List Int32)).length)), .val (.int (Int32.ofNat (8 - (body q ([c0, c1, c2] : List Int32)).length))), .val (.int (Int32.ofNat lo)), .unset, .unset, .unset]) (S' := [(.int (8 : Int32))]) rfl ?_
    refine Run.newarr hK (aty := .char) (hw _ (List.mem_of_getElem? (i := 11) rfl)) (by decide +kernel) (by decide) (cap := 8) (by decide) (by decide) (by decide) (by decide) (fun hd kd Ed Ad => ?_)
    obtain ⟨ad, zd⟩ : ∃ z, z = hp2.size := ⟨_, rfl⟩
    rw [← zd]
    rw [← zd] at Ad
    have gd : hp2.size ≤ ad := by rw [zd]; exact Nat.le_refl _
    have gdz := Nat.le_trans hO.1 gd
    refine Run.less (W' := []) ?_ (fun _ q => nomatch q)
    refine Run.pure hK (seg := [(224, .astore 17, 2), (226, .aload 17, 2), (228, .iconst 0, 1), (229, .iload 4, 2), (231, .iconst 0, 1)]) (by decide +kernel) (pc' := 232) (L' := #[.val (.int i0), .val (.int i1), .val (.int i2), .val (.int i3), .val (.int i4), .val (.int c0), .val (.int c1), .val (.int c2), .val (.int (3 : Int32)), .val (.int (1 : Int32)), .val (.int (1 : Int32)), .val (.int (1 : Int32)), .val (.int cb), .val (.int q), .val (.int (Int32.ofNat (body q ([c0, c1, c2] : List Int32)).length)), .val (.int (Int32.ofNat (8 - (body q ([c0, c1, c2] : List Int32)).length))), .val (.int (Int32.ofNat lo)), .val (.ref ad), .unset, .unset]) (S' := [(.int (0 : Int32)), (.int i4), (.int (0 : Int32)), (.ref ad)]) rfl ?_
    refine Run.static hK (index := 21) (y := (⟨"com/example/libidem/libidem/http/KeyHeaderParsePinLaw", "blank", "(II)C"⟩ : MethodName)) (Wt := 2) (kc := 0) (ks := 0) (hw _ (List.mem_of_getElem? (i := 12) rfl)) (hw _ (List.mem_of_getElem? (i := 13) rfl)) (hw _ (List.mem_of_getElem? (i := 2) rfl)) (hw _ (List.mem_of_getElem? (i := 14) rfl)) (by decide) (W' := []) (fun _ q => nomatch q) (Ctr.cal (c_blk G i4 (0 : Int32) hd) (hw _ (List.mem_of_getElem? (i := 14) rfl)) (hw _ (List.mem_of_getElem? (i := 2) rfl)) (by decide) (by decide)) rfl (argsL := [(.int i4), (.int (0 : Int32))]) (rest := [(.int (0 : Int32)), (.ref ad)]) (lenOf pd_blk rfl) rfl (Nat.le_of_ble_eq_true rfl) (by decide +kernel) (by decide) (by decide) (fun vf0 hf0 qf0 nf0 => ?_)
    obtain ⟨rfl, r0, rfl, bl0, br0⟩ := qf0
    refine Run.cst hK Ad ⟨by decide, by decide⟩ gdz (by decide +kernel) (fun hd0 Wd0 Bd => ?_)
    replace Ad : Arv Z hd0 ad kd .char 8 [(.int r0), (.int (0 : Int32)), (.int (0 : Int32)), (.int (0 : Int32)), (.int (0 : Int32)), (.int (0 : Int32)), (.int (0 : Int32)), (.int (0 : Int32))] (.int 0) := by rw [nc br0] at Bd; exact Bd
    clear Bd
    have K0_ := Wd0
    refine Run.pure hK (seg := [(236, .aload 17, 2), (238, .iconst 1, 1), (239, .iload 4, 2), (241, .iconst 1, 1)]) (by decide +kernel) (pc' := 242) (L' := #[.val (.int i0), .val (.int i1), .val (.int i2), .val (.int i3), .val (.int i4), .val (.int c0), .val (.int c1), .val (.int c2), .val (.int (3 : Int32)), .val (.int (1 : Int32)), .val (.int (1 : Int32)), .val (.int (1 : Int32)), .val (.int cb), .val (.int q), .val (.int (Int32.ofNat (body q ([c0, c1, c2] : List Int32)).length)), .val (.int (Int32.ofNat (8 - (body q ([c0, c1, c2] : List Int32)).length))), .val (.int (Int32.ofNat lo)), .val (.ref ad), .unset, .unset]) (S' := [(.int (1 : Int32)), (.int i4), (.int (1 : Int32)), (.ref ad)]) rfl ?_
    refine Run.static hK (index := 21) (y := (⟨"com/example/libidem/libidem/http/KeyHeaderParsePinLaw", "blank", "(II)C"⟩ : MethodName)) (Wt := 2) (kc := 0) (ks := 0) (hw _ (List.mem_of_getElem? (i := 12) rfl)) (hw _ (List.mem_of_getElem? (i := 13) rfl)) (hw _ (List.mem_of_getElem? (i := 2) rfl)) (hw _ (List.mem_of_getElem? (i := 14) rfl)) (by decide) (W' := []) (fun _ q => nomatch q) (Ctr.cal (c_blk G i4 (1 : Int32) hd0) (hw _ (List.mem_of_getElem? (i := 14) rfl)) (hw _ (List.mem_of_getElem? (i := 2) rfl)) (by decide) (by decide)) rfl (argsL := [(.int i4), (.int (1 : Int32))]) (rest := [(.int (1 : Int32)), (.ref ad)]) (lenOf pd_blk rfl) rfl (Nat.le_of_ble_eq_true rfl) (by decide +kernel) (by decide) (by decide) (fun vf1 hf1 qf1 nf1 => ?_)
    obtain ⟨rfl, r1, rfl, bl1, br1⟩ := qf1
    refine Run.cst hK Ad ⟨by decide, by decide⟩ gdz (by decide +kernel) (fun hd1 Wd1 Bd => ?_)
    replace Ad : Arv Z hd1 ad kd .char 8 [(.int r0), (.int r1), (.int (0 : Int32)), (.int (0 : Int32)), (.int (0 : Int32)), (.int (0 : Int32)), (.int (0 : Int32)), (.int (0 : Int32))] (.int 0) := by rw [nc br1] at Bd; exact Bd
    clear Bd
    have K1_ := Wd1
    refine Run.pure hK (seg := [(246, .aload 17, 2), (248, .iconst 2, 1), (249, .iload 4, 2), (251, .iconst 2, 1)]) (by decide +kernel) (pc' := 252) (L' := #[.val (.int i0), .val (.int i1), .val (.int i2), .val (.int i3), .val (.int i4), .val (.int c0), .val (.int c1), .val (.int c2), .val (.int (3 : Int32)), .val (.int (1 : Int32)), .val (.int (1 : Int32)), .val (.int (1 : Int32)), .val (.int cb), .val (.int q), .val (.int (Int32.ofNat (body q ([c0, c1, c2] : List Int32)).length)), .val (.int (Int32.ofNat (8 - (body q ([c0, c1, c2] : List Int32)).length))), .val (.int (Int32.ofNat lo)), .val (.ref ad), .unset, .unset]) (S' := [(.int (2 : Int32)), (.int i4), (.int (2 : Int32)), (.ref ad)]) rfl ?_
    refine Run.static hK (index := 21) (y := (⟨"com/example/libidem/libidem/http/KeyHeaderParsePinLaw", "blank", "(II)C"⟩ : MethodName)) (Wt := 2) (kc := 0) (ks := 0) (hw _ (List.mem_of_getElem? (i := 12) rfl)) (hw _ (List.mem_of_getElem? (i := 13) rfl)) (hw _ (List.mem_of_getElem? (i := 2) rfl)) (hw _ (List.mem_of_getElem? (i := 14) rfl)) (by decide) (W' := []) (fun _ q => nomatch q) (Ctr.cal (c_blk G i4 (2 : Int32) hd1) (hw _ (List.mem_of_getElem? (i := 14) rfl)) (hw _ (List.mem_of_getElem? (i := 2) rfl)) (by decide) (by decide)) rfl (argsL := [(.int i4), (.int (2 : Int32))]) (rest := [(.int (2 : Int32)), (.ref ad)]) (lenOf pd_blk rfl) rfl (Nat.le_of_ble_eq_true rfl) (by decide +kernel) (by decide) (by decide) (fun vf2 hf2 qf2 nf2 => ?_)
    obtain ⟨rfl, r2, rfl, bl2, br2⟩ := qf2
    refine Run.cst hK Ad ⟨by decide, by decide⟩ gdz (by decide +kernel) (fun hd2 Wd2 Bd => ?_)
    replace Ad : Arv Z hd2 ad kd .char 8 [(.int r0), (.int r1), (.int r2), (.int (0 : Int32)), (.int (0 : Int32)), (.int (0 : Int32)), (.int (0 : Int32)), (.int (0 : Int32))] (.int 0) := by rw [nc br2] at Bd; exact Bd
    clear Bd
    have K2_ := Wd2
    refine Run.pure hK (seg := [(256, .aload 17, 2), (258, .iconst 3, 1), (259, .iload 4, 2), (261, .iconst 3, 1)]) (by decide +kernel) (pc' := 262) (L' := #[.val (.int i0), .val (.int i1), .val (.int i2), .val (.int i3), .val (.int i4), .val (.int c0), .val (.int c1), .val (.int c2), .val (.int (3 : Int32)), .val (.int (1 : Int32)), .val (.int (1 : Int32)), .val (.int (1 : Int32)), .val (.int cb), .val (.int q), .val (.int (Int32.ofNat (body q ([c0, c1, c2] : List Int32)).length)), .val (.int (Int32.ofNat (8 - (body q ([c0, c1, c2] : List Int32)).length))), .val (.int (Int32.ofNat lo)), .val (.ref ad), .unset, .unset]) (S' := [(.int (3 : Int32)), (.int i4), (.int (3 : Int32)), (.ref ad)]) rfl ?_
    refine Run.static hK (index := 21) (y := (⟨"com/example/libidem/libidem/http/KeyHeaderParsePinLaw", "blank", "(II)C"⟩ : MethodName)) (Wt := 2) (kc := 0) (ks := 0) (hw _ (List.mem_of_getElem? (i := 12) rfl)) (hw _ (List.mem_of_getElem? (i := 13) rfl)) (hw _ (List.mem_of_getElem? (i := 2) rfl)) (hw _ (List.mem_of_getElem? (i := 14) rfl)) (by decide) (W' := []) (fun _ q => nomatch q) (Ctr.cal (c_blk G i4 (3 : Int32) hd2) (hw _ (List.mem_of_getElem? (i := 14) rfl)) (hw _ (List.mem_of_getElem? (i := 2) rfl)) (by decide) (by decide)) rfl (argsL := [(.int i4), (.int (3 : Int32))]) (rest := [(.int (3 : Int32)), (.ref ad)]) (lenOf pd_blk rfl) rfl (Nat.le_of_ble_eq_true rfl) (by decide +kernel) (by decide) (by decide) (fun vf3 hf3 qf3 nf3 => ?_)
    obtain ⟨rfl, r3, rfl, bl3, br3⟩ := qf3
    refine Run.cst hK Ad ⟨by decide, by decide⟩ gdz (by decide +kernel) (fun hd3 Wd3 Bd => ?_)
    replace Ad : Arv Z hd3 ad kd .char 8 [(.int r0), (.int r1), (.int r2), (.int r3), (.int (0 : Int32)), (.int (0 : Int32)), (.int (0 : Int32)), (.int (0 : Int32))] (.int 0) := by rw [nc br3] at Bd; exact Bd
    clear Bd
    have K3_ := Wd3
    refine Run.pure hK (seg := [(266, .aload 17, 2), (268, .iconst 4, 1), (269, .iload 4, 2), (271, .iconst 4, 1)]) (by decide +kernel) (pc' := 272) (L' := #[.val (.int i0), .val (.int i1), .val (.int i2), .val (.int i3), .val (.int i4), .val (.int c0), .val (.int c1), .val (.int c2), .val (.int (3 : Int32)), .val (.int (1 : Int32)), .val (.int (1 : Int32)), .val (.int (1 : Int32)), .val (.int cb), .val (.int q), .val (.int (Int32.ofNat (body q ([c0, c1, c2] : List Int32)).length)), .val (.int (Int32.ofNat (8 - (body q ([c0, c1, c2] : List Int32)).length))), .val (.int (Int32.ofNat lo)), .val (.ref ad), .unset, .unset]) (S' := [(.int (4 : Int32)), (.int i4), (.int (4 : Int32)), (.ref ad)]) rfl ?_
    refine Run.static hK (index := 21) (y := (⟨"com/example/libidem/libidem/http/KeyHeaderParsePinLaw", "blank", "(II)C"⟩ : MethodName)) (Wt := 2) (kc := 0) (ks := 0) (hw _ (List.mem_of_getElem? (i := 12) rfl)) (hw _ (List.mem_of_getElem? (i := 13) rfl)) (hw _ (List.mem_of_getElem? (i := 2) rfl)) (hw _ (List.mem_of_getElem? (i := 14) rfl)) (by decide) (W' := []) (fun _ q => nomatch q) (Ctr.cal (c_blk G i4 (4 : Int32) hd3) (hw _ (List.mem_of_getElem? (i := 14) rfl)) (hw _ (List.mem_of_getElem? (i := 2) rfl)) (by decide) (by decide)) rfl (argsL := [(.int i4), (.int (4 : Int32))]) (rest := [(.int (4 : Int32)), (.ref ad)]) (lenOf pd_blk rfl) rfl (Nat.le_of_ble_eq_true rfl) (by decide +kernel) (by decide) (by decide) (fun vf4 hf4 qf4 nf4 => ?_)
    obtain ⟨rfl, r4, rfl, bl4, br4⟩ := qf4
    refine Run.cst hK Ad ⟨by decide, by decide⟩ gdz (by decide +kernel) (fun hd4 Wd4 Bd => ?_)
    replace Ad : Arv Z hd4 ad kd .char 8 [(.int r0), (.int r1), (.int r2), (.int r3), (.int r4), (.int (0 : Int32)), (.int (0 : Int32)), (.int (0 : Int32))] (.int 0) := by rw [nc br4] at Bd; exact Bd
    clear Bd
    have K4_ := Wd4
    refine Run.pure hK (seg := [(276, .aload 17, 2), (278, .iconst 5, 1), (279, .iload 4, 2), (281, .iconst 5, 1)]) (by decide +kernel) (pc' := 282) (L' := #[.val (.int i0), .val (.int i1), .val (.int i2), .val (.int i3), .val (.int i4), .val (.int c0), .val (.int c1), .val (.int c2), .val (.int (3 : Int32)), .val (.int (1 : Int32)), .val (.int (1 : Int32)), .val (.int (1 : Int32)), .val (.int cb), .val (.int q), .val (.int (Int32.ofNat (body q ([c0, c1, c2] : List Int32)).length)), .val (.int (Int32.ofNat (8 - (body q ([c0, c1, c2] : List Int32)).length))), .val (.int (Int32.ofNat lo)), .val (.ref ad), .unset, .unset]) (S' := [(.int (5 : Int32)), (.int i4), (.int (5 : Int32)), (.ref ad)]) rfl ?_
    refine Run.static hK (index := 21) (y := (⟨"com/example/libidem/libidem/http/KeyHeaderParsePinLaw", "blank", "(II)C"⟩ : MethodName)) (Wt := 2) (kc := 0) (ks := 0) (hw _ (List.mem_of_getElem? (i := 12) rfl)) (hw _ (List.mem_of_getElem? (i := 13) rfl)) (hw _ (List.mem_of_getElem? (i := 2) rfl)) (hw _ (List.mem_of_getElem? (i := 14) rfl)) (by decide) (W' := []) (fun _ q => nomatch q) (Ctr.cal (c_blk G i4 (5 : Int32) hd4) (hw _ (List.mem_of_getElem? (i := 14) rfl)) (hw _ (List.mem_of_getElem? (i := 2) rfl)) (by decide) (by decide)) rfl (argsL := [(.int i4), (.int (5 : Int32))]) (rest := [(.int (5 : Int32)), (.ref ad)]) (lenOf pd_blk rfl) rfl (Nat.le_of_ble_eq_true rfl) (by decide +kernel) (by decide) (by decide) (fun vf5 hf5 qf5 nf5 => ?_)
    obtain ⟨rfl, r5, rfl, bl5, br5⟩ := qf5
    refine Run.cst hK Ad ⟨by decide, by decide⟩ gdz (by decide +kernel) (fun hd5 Wd5 Bd => ?_)
    replace Ad : Arv Z hd5 ad kd .char 8 [(.int r0), (.int r1), (.int r2), (.int r3), (.int r4), (.int r5), (.int (0 : Int32)), (.int (0 : Int32))] (.int 0) := by rw [nc br5] at Bd; exact Bd
    clear Bd
    have K5_ := Wd5
    refine Run.pure hK (seg := [(286, .aload 17, 2), (288, .bipush 6, 2), (290, .iload 4, 2), (292, .bipush 6, 2)]) (by decide +kernel) (pc' := 294) (L' := #[.val (.int i0), .val (.int i1), .val (.int i2), .val (.int i3), .val (.int i4), .val (.int c0), .val (.int c1), .val (.int c2), .val (.int (3 : Int32)), .val (.int (1 : Int32)), .val (.int (1 : Int32)), .val (.int (1 : Int32)), .val (.int cb), .val (.int q), .val (.int (Int32.ofNat (body q ([c0, c1, c2] : List Int32)).length)), .val (.int (Int32.ofNat (8 - (body q ([c0, c1, c2] : List Int32)).length))), .val (.int (Int32.ofNat lo)), .val (.ref ad), .unset, .unset]) (S' := [(.int (6 : Int32)), (.int i4), (.int (6 : Int32)), (.ref ad)]) rfl ?_
    refine Run.static hK (index := 21) (y := (⟨"com/example/libidem/libidem/http/KeyHeaderParsePinLaw", "blank", "(II)C"⟩ : MethodName)) (Wt := 2) (kc := 0) (ks := 0) (hw _ (List.mem_of_getElem? (i := 12) rfl)) (hw _ (List.mem_of_getElem? (i := 13) rfl)) (hw _ (List.mem_of_getElem? (i := 2) rfl)) (hw _ (List.mem_of_getElem? (i := 14) rfl)) (by decide) (W' := []) (fun _ q => nomatch q) (Ctr.cal (c_blk G i4 (6 : Int32) hd5) (hw _ (List.mem_of_getElem? (i := 14) rfl)) (hw _ (List.mem_of_getElem? (i := 2) rfl)) (by decide) (by decide)) rfl (argsL := [(.int i4), (.int (6 : Int32))]) (rest := [(.int (6 : Int32)), (.ref ad)]) (lenOf pd_blk rfl) rfl (Nat.le_of_ble_eq_true rfl) (by decide +kernel) (by decide) (by decide) (fun vf6 hf6 qf6 nf6 => ?_)
    obtain ⟨rfl, r6, rfl, bl6, br6⟩ := qf6
    refine Run.cst hK Ad ⟨by decide, by decide⟩ gdz (by decide +kernel) (fun hd6 Wd6 Bd => ?_)
    replace Ad : Arv Z hd6 ad kd .char 8 [(.int r0), (.int r1), (.int r2), (.int r3), (.int r4), (.int r5), (.int r6), (.int (0 : Int32))] (.int 0) := by rw [nc br6] at Bd; exact Bd
    clear Bd
    have K6_ := Wd6
    refine Run.pure hK (seg := [(298, .aload 17, 2), (300, .bipush 7, 2), (302, .iload 4, 2), (304, .bipush 7, 2)]) (by decide +kernel) (pc' := 306) (L' := #[.val (.int i0), .val (.int i1), .val (.int i2), .val (.int i3), .val (.int i4), .val (.int c0), .val (.int c1), .val (.int c2), .val (.int (3 : Int32)), .val (.int (1 : Int32)), .val (.int (1 : Int32)), .val (.int (1 : Int32)), .val (.int cb), .val (.int q), .val (.int (Int32.ofNat (body q ([c0, c1, c2] : List Int32)).length)), .val (.int (Int32.ofNat (8 - (body q ([c0, c1, c2] : List Int32)).length))), .val (.int (Int32.ofNat lo)), .val (.ref ad), .unset, .unset]) (S' := [(.int (7 : Int32)), (.int i4), (.int (7 : Int32)), (.ref ad)]) rfl ?_
    refine Run.static hK (index := 21) (y := (⟨"com/example/libidem/libidem/http/KeyHeaderParsePinLaw", "blank", "(II)C"⟩ : MethodName)) (Wt := 2) (kc := 0) (ks := 0) (hw _ (List.mem_of_getElem? (i := 12) rfl)) (hw _ (List.mem_of_getElem? (i := 13) rfl)) (hw _ (List.mem_of_getElem? (i := 2) rfl)) (hw _ (List.mem_of_getElem? (i := 14) rfl)) (by decide) (W' := []) (fun _ q => nomatch q) (Ctr.cal (c_blk G i4 (7 : Int32) hd6) (hw _ (List.mem_of_getElem? (i := 14) rfl)) (hw _ (List.mem_of_getElem? (i := 2) rfl)) (by decide) (by decide)) rfl (argsL := [(.int i4), (.int (7 : Int32))]) (rest := [(.int (7 : Int32)), (.ref ad)]) (lenOf pd_blk rfl) rfl (Nat.le_of_ble_eq_true rfl) (by decide +kernel) (by decide) (by decide) (fun vf7 hf7 qf7 nf7 => ?_)
    obtain ⟨rfl, r7, rfl, bl7, br7⟩ := qf7
    refine Run.cst hK Ad ⟨by decide, by decide⟩ gdz (by decide +kernel) (fun hd7 Wd7 Bd => ?_)
    replace Ad : Arv Z hd7 ad kd .char 8 [(.int r0), (.int r1), (.int r2), (.int r3), (.int r4), (.int r5), (.int r6), (.int r7)] (.int 0) := by rw [nc br7] at Bd; exact Bd
    clear Bd
    have K7_ := Wd7
    obtain ⟨Bl, e_Bl⟩ : ∃ z : List Int32, z = [r0, r1, r2, r3, r4, r5, r6, r7] := ⟨_, rfl⟩
    have hB : Bl.length = 8 := by rw [e_Bl]; rfl
    have hbr : ∀ c ∈ Bl, bl c ∧ ¬ c < 0 ∧ ¬ (255 : Int32) < c := fun c hc => by
      rw [e_Bl] at hc; simp only [List.mem_cons, List.not_mem_nil, or_false] at hc
      rcases hc with rfl | rfl | rfl | rfl | rfl | rfl | rfl | rfl
      · exact ⟨bl0, br0⟩
      · exact ⟨bl1, br1⟩
      · exact ⟨bl2, br2⟩
      · exact ⟨bl3, br3⟩
      · exact ⟨bl4, br4⟩
      · exact ⟨bl5, br5⟩
      · exact ⟨bl6, br6⟩
      · exact ⟨bl7, br7⟩
    have A0 : Arv Z hd7 ad kd .char 8 ((Sp Bl lo []).map Value.int) (.int 0) := by rw [Sp_nil, e_Bl]; exact Ad
    have hll : lo + (body q ([c0, c1, c2] : List Int32)).length ≤ 8 := by omega
    rw [body_pre] at hll
    refine Run.pure hK (seg := [(310, .iload 16, 2), (312, .istore 18, 2)]) (by decide +kernel) (pc' := 314) (L' := #[.val (.int i0), .val (.int i1), .val (.int i2), .val (.int i3), .val (.int i4), .val (.int c0), .val (.int c1), .val (.int c2), .val (.int (3 : Int32)), .val (.int (1 : Int32)), .val (.int (1 : Int32)), .val (.int (1 : Int32)), .val (.int cb), .val (.int q), .val (.int (Int32.ofNat (body q ([c0, c1, c2] : List Int32)).length)), .val (.int (Int32.ofNat (8 - (body q ([c0, c1, c2] : List Int32)).length))), .val (.int (Int32.ofNat lo)), .val (.ref ad), .val (.int (Int32.ofNat lo)), .unset]) (S' := []) rfl ?_
    suffices s329 : ∀ f1 : Heap, Arv Z f1 ad kd .char 8 ((Sp Bl lo (pre q)).map Value.int) (.int 0) → Run Z consts_1 false K (fun v h' => v = some (.int 1)) [] f1 1 8 329 #[.val (.int i0), .val (.int i1), .val (.int i2), .val (.int i3), .val (.int i4), .val (.int c0), .val (.int c1), .val (.int c2), .val (.int (3 : Int32)), .val (.int (1 : Int32)), .val (.int (1 : Int32)), .val (.int (1 : Int32)), .val (.int cb), .val (.int q), .val (.int (Int32.ofNat (body q ([c0, c1, c2] : List Int32)).length)), .val (.int (Int32.ofNat (8 - (body q ([c0, c1, c2] : List Int32)).length))), .val (.int (Int32.ofNat lo)), .val (.ref ad), .val (.int (Int32.ofNat (lo + (pre q).length))), .unset] [] by
      refine Run.pure hK (seg := [(314, .iload 13, 2)]) (by decide +kernel) (pc' := 316) (L' := #[.val (.int i0), .val (.int i1), .val (.int i2), .val (.int i3), .val (.int i4), .val (.int c0), .val (.int c1), .val (.int c2), .val (.int (3 : Int32)), .val (.int (1 : Int32)), .val (.int (1 : Int32)), .val (.int (1 : Int32)), .val (.int cb), .val (.int q), .val (.int (Int32.ofNat (body q ([c0, c1, c2] : List Int32)).length)), .val (.int (Int32.ofNat (8 - (body q ([c0, c1, c2] : List Int32)).length))), .val (.int (Int32.ofNat lo)), .val (.ref ad), .val (.int (Int32.ofNat lo)), .unset]) (S' := [(.int q)]) rfl ?_
      refine Run.ifz hK (cd := .eq) (o := 13) (by decide +kernel) (by decide) (pc' := 329) rfl (fun r1 => ?_) (fun r1 => ?_)
      · replace r1 := (h_eq _ _).1 r1
        have pq : pre q = [] := if_pos r1
        rw [pq] at s329
        exact s329 _ A0
      · replace r1 := (h_eq _ _).2 r1
        have pq : pre q = [34] := if_neg r1
        rw [pq] at s329 hll
        simp only [List.length_append, List.length_cons, List.length_nil] at hll
        refine Run.pure hK (seg := [(319, .aload 17, 2), (321, .iload 18, 2), (323, .bipush 34, 2)]) (by decide +kernel) (pc' := 325) (L' := #[.val (.int i0), .val (.int i1), .val (.int i2), .val (.int i3), .val (.int i4), .val (.int c0), .val (.int c1), .val (.int c2), .val (.int (3 : Int32)), .val (.int (1 : Int32)), .val (.int (1 : Int32)), .val (.int (1 : Int32)), .val (.int cb), .val (.int q), .val (.int (Int32.ofNat (body q ([c0, c1, c2] : List Int32)).length)), .val (.int (Int32.ofNat (8 - (body q ([c0, c1, c2] : List Int32)).length))), .val (.int (Int32.ofNat lo)), .val (.ref ad), .val (.int (Int32.ofNat lo)), .unset]) (S' := [(.int (34 : Int32)), (.int (Int32.ofNat lo)), (.ref ad)]) rfl ?_
        refine Run.cst hK A0 ⟨ofN_nn (by omega), by rw [Int32.lt_iff_toInt_lt, ofN (by omega), show (8 : Int32).toInt = 8 from rfl]; omega⟩ gdz (by decide +kernel) (fun hg Wg Bg => ?_)
        have Ag : Arv Z hg ad kd .char 8 ((Sp Bl lo ([] ++ [(34 : Int32)])).map Value.int) (.int 0) := by
          rw [← Sp_set (w := ([] : List Int32)) (by show lo + 0 < _; omega), List.map_set]; rw [ofN_nat (by omega : lo ≤ 4000)] at Bg
          exact Bg.pad (set_pad2 _ _ (by rw [List.length_map, Sp_len (by show lo + 0 ≤ _; omega)]; show lo + 0 < _; omega))
        refine Run.pure hK (seg := [(326, .iinc 18 1, 3)]) (by decide +kernel) (pc' := 329) (L' := #[.val (.int i0), .val (.int i1), .val (.int i2), .val (.int i3), .val (.int i4), .val (.int c0), .val (.int c1), .val (.int c2), .val (.int (3 : Int32)), .val (.int (1 : Int32)), .val (.int (1 : Int32)), .val (.int (1 : Int32)), .val (.int cb), .val (.int q), .val (.int (Int32.ofNat (body q ([c0, c1, c2] : List Int32)).length)), .val (.int (Int32.ofNat (8 - (body q ([c0, c1, c2] : List Int32)).length))), .val (.int (Int32.ofNat lo)), .val (.ref ad), .val (.int ((Int32.ofNat lo) + (1 : Int32))), .unset]) (S' := []) rfl ?_
        rw [show Int32.ofNat lo + (1 : Int32) = Int32.ofNat (lo + ([34] : List Int32).length) from ofN_add (n := lo) (m := 1) (by omega)]
        exact s329 _ Ag
    intro f1 A1
    refine Run.pure hK (seg := [(329, .aload 17, 2), (331, .iload 18, 2), (333, .iload 9, 2), (335, .iload 5, 2), (337, .iload 13, 2)]) (by decide +kernel) (pc' := 339) (L' := #[.val (.int i0), .val (.int i1), .val (.int i2), .val (.int i3), .val (.int i4), .val (.int c0), .val (.int c1), .val (.int c2), .val (.int (3 : Int32)), .val (.int (1 : Int32)), .val (.int (1 : Int32)), .val (.int (1 : Int32)), .val (.int cb), .val (.int q), .val (.int (Int32.ofNat (body q ([c0, c1, c2] : List Int32)).length)), .val (.int (Int32.ofNat (8 - (body q ([c0, c1, c2] : List Int32)).length))), .val (.int (Int32.ofNat lo)), .val (.ref ad), .val (.int (Int32.ofNat (lo + (pre q).length))), .unset]) (S' := [(.int q), (.int c0), (.int (1 : Int32)), (.int (Int32.ofNat (lo + (pre q).length))), (.ref ad)]) rfl ?_
    refine Run.static hK (index := 25) (y := (⟨"com/example/libidem/libidem/http/KeyHeaderParsePinLaw", "put", "([CIZCZ)I"⟩ : MethodName)) (Wt := 0) (kc := 0) (ks := 0) (hw _ (List.mem_of_getElem? (i := 15) rfl)) (hw _ (List.mem_of_getElem? (i := 16) rfl)) (hw _ (List.mem_of_getElem? (i := 2) rfl)) (hw _ (List.mem_of_getElem? (i := 17) rfl)) (by decide) (W' := []) (fun _ q => nomatch q) (Ctr.cal (c_put G ad (1 : Int32) c0 q lo f1 A1 gdz hB (by rw [if_neg (by decide : ¬ (1 : Int32) = 0)]; have z := hll; simp only [List.length_append, List.length_nil, enc] at z ⊢; omega) (prt_in p0)) (hw _ (List.mem_of_getElem? (i := 17) rfl)) (hw _ (List.mem_of_getElem? (i := 2) rfl)) (by decide) (by decide)) rfl (argsL := [(.ref ad), (.int (Int32.ofNat (lo + (pre q).length))), (.int (1 : Int32)), (.int c0), (.int q)]) (rest := []) (lenOf pd_pt rfl) rfl (Nat.le_of_ble_eq_true rfl) (by decide +kernel) (by decide) (by decide) (fun vu0 hu0 qu0 nu0 => ?_)
    obtain ⟨rfl, Au0, Ku0⟩ := qu0
    rw [if_neg (by decide : ¬ (1 : Int32) = 0)]
    rw [if_neg (by decide : ¬ (1 : Int32) = 0)] at Au0
    refine Run.pure hK (seg := [(342, .istore 18, 2), (344, .aload 17, 2), (346, .iload 18, 2), (348, .iload 10, 2), (350, .iload 6, 2), (352, .iload 13, 2)]) (by decide +kernel) (pc' := 354) (L' := #[.val (.int i0), .val (.int i1), .val (.int i2), .val (.int i3), .val (.int i4), .val (.int c0), .val (.int c1), .val (.int c2), .val (.int (3 : Int32)), .val (.int (1 : Int32)), .val (.int (1 : Int32)), .val (.int (1 : Int32)), .val (.int cb), .val (.int q), .val (.int (Int32.ofNat (body q ([c0, c1, c2] : List Int32)).length)), .val (.int (Int32.ofNat (8 - (body q ([c0, c1, c2] : List Int32)).length))), .val (.int (Int32.ofNat lo)), .val (.ref ad), .val (.int (Int32.ofNat (lo + ((pre q) ++ e1 q c0).length))), .unset]) (S' := [(.int q), (.int c1), (.int (1 : Int32)), (.int (Int32.ofNat (lo + ((pre q) ++ e1 q c0).length))), (.ref ad)]) rfl ?_
    refine Run.static hK (index := 25) (y := (⟨"com/example/libidem/libidem/http/KeyHeaderParsePinLaw", "put", "([CIZCZ)I"⟩ : MethodName)) (Wt := 0) (kc := 0) (ks := 0) (hw _ (List.mem_of_getElem? (i := 15) rfl)) (hw _ (List.mem_of_getElem? (i := 16) rfl)) (hw _ (List.mem_of_getElem? (i := 2) rfl)) (hw _ (List.mem_of_getElem? (i := 17) rfl)) (by decide) (W' := []) (fun _ q => nomatch q) (Ctr.cal (c_put G ad (1 : Int32) c1 q lo hu0 Au0 gdz hB (by rw [if_neg (by decide : ¬ (1 : Int32) = 0)]; have z := hll; simp only [List.length_append, List.length_nil, enc] at z ⊢; omega) (prt_in p1)) (hw _ (List.mem_of_getElem? (i := 17) rfl)) (hw _ (List.mem_of_getElem? (i := 2) rfl)) (by decide) (by decide)) rfl (argsL := [(.ref ad), (.int (Int32.ofNat (lo + ((pre q) ++ e1 q c0).length))), (.int (1 : Int32)), (.int c1), (.int q)]) (rest := []) (lenOf pd_pt rfl) rfl (Nat.le_of_ble_eq_true rfl) (by decide +kernel) (by decide) (by decide) (fun vu1 hu1 qu1 nu1 => ?_)
    obtain ⟨rfl, Au1, Ku1⟩ := qu1
    rw [if_neg (by decide : ¬ (1 : Int32) = 0)]
    rw [if_neg (by decide : ¬ (1 : Int32) = 0)] at Au1
    refine Run.pure hK (seg := [(357, .istore 18, 2), (359, .aload 17, 2), (361, .iload 18, 2), (363, .iload 11, 2), (365, .iload 7, 2), (367, .iload 13, 2)]) (by decide +kernel) (pc' := 369) (L' := #[.val (.int i0), .val (.int i1), .val (.int i2), .val (.int i3), .val (.int i4), .val (.int c0), .val (.int c1), .val (.int c2), .val (.int (3 : Int32)), .val (.int (1 : Int32)), .val (.int (1 : Int32)), .val (.int (1 : Int32)), .val (.int cb), .val (.int q), .val (.int (Int32.ofNat (body q ([c0, c1, c2] : List Int32)).length)), .val (.int (Int32.ofNat (8 - (body q ([c0, c1, c2] : List Int32)).length))), .val (.int (Int32.ofNat lo)), .val (.ref ad), .val (.int (Int32.ofNat (lo + (((pre q) ++ e1 q c0) ++ e1 q c1).length))), .unset]) (S' := [(.int q), (.int c2), (.int (1 : Int32)), (.int (Int32.ofNat (lo + (((pre q) ++ e1 q c0) ++ e1 q c1).length))), (.ref ad)]) rfl ?_
    refine Run.static hK (index := 25) (y := (⟨"com/example/libidem/libidem/http/KeyHeaderParsePinLaw", "put", "([CIZCZ)I"⟩ : MethodName)) (Wt := 0) (kc := 0) (ks := 0) (hw _ (List.mem_of_getElem? (i := 15) rfl)) (hw _ (List.mem_of_getElem? (i := 16) rfl)) (hw _ (List.mem_of_getElem? (i := 2) rfl)) (hw _ (List.mem_of_getElem? (i := 17) rfl)) (by decide) (W' := []) (fun _ q => nomatch q) (Ctr.cal (c_put G ad (1 : Int32) c2 q lo hu1 Au1 gdz hB (by rw [if_neg (by decide : ¬ (1 : Int32) = 0)]; have z := hll; simp only [List.length_append, List.length_nil, enc] at z ⊢; omega) (prt_in p2)) (hw _ (List.mem_of_getElem? (i := 17) rfl)) (hw _ (List.mem_of_getElem? (i := 2) rfl)) (by decide) (by decide)) rfl (argsL := [(.ref ad), (.int (Int32.ofNat (lo + (((pre q) ++ e1 q c0) ++ e1 q c1).length))), (.int (1 : Int32)), (.int c2), (.int q)]) (rest := []) (lenOf pd_pt rfl) rfl (Nat.le_of_ble_eq_true rfl) (by decide +kernel) (by decide) (by decide) (fun vu2 hu2 qu2 nu2 => ?_)
    obtain ⟨rfl, Au2, Ku2⟩ := qu2
    rw [if_neg (by decide : ¬ (1 : Int32) = 0)]
    rw [if_neg (by decide : ¬ (1 : Int32) = 0)] at Au2
    have eW : ((((pre q) ++ e1 q c0) ++ e1 q c1) ++ e1 q c2) = (pre q ++ enc q ([c0, c1, c2] : List Int32)) := by
      show _ = pre q ++ (e1 q c0 ++ (e1 q c1 ++ (e1 q c2 ++ [])))
      simp only [List.append_nil, List.append_assoc]
    rw [eW] at Au2
    refine Run.pure hK (seg := [(372, .istore 18, 2)]) (by decide +kernel) (pc' := 374) (L' := #[.val (.int i0), .val (.int i1), .val (.int i2), .val (.int i3), .val (.int i4), .val (.int c0), .val (.int c1), .val (.int c2), .val (.int (3 : Int32)), .val (.int (1 : Int32)), .val (.int (1 : Int32)), .val (.int (1 : Int32)), .val (.int cb), .val (.int q), .val (.int (Int32.ofNat (body q ([c0, c1, c2] : List Int32)).length)), .val (.int (Int32.ofNat (8 - (body q ([c0, c1, c2] : List Int32)).length))), .val (.int (Int32.ofNat lo)), .val (.ref ad), .val (.int (Int32.ofNat (lo + ((((pre q) ++ e1 q c0) ++ e1 q c1) ++ e1 q c2).length))), .unset]) (S' := []) rfl ?_
    rw [eW]
    suffices s389 : ∀ (f2 : Heap) (o18 : Slot), Arv Z f2 ad kd .char 8 ((Sp Bl lo (body q ([c0, c1, c2] : List Int32))).map Value.int) (.int 0) → Run Z consts_1 false K (fun v h' => v = some (.int 1)) [] f2 1 8 389 #[.val (.int i0), .val (.int i1), .val (.int i2), .val (.int i3), .val (.int i4), .val (.int c0), .val (.int c1), .val (.int c2), .val (.int (3 : Int32)), .val (.int (1 : Int32)), .val (.int (1 : Int32)), .val (.int (1 : Int32)), .val (.int cb), .val (.int q), .val (.int (Int32.ofNat (body q ([c0, c1, c2] : List Int32)).length)), .val (.int (Int32.ofNat (8 - (body q ([c0, c1, c2] : List Int32)).length))), .val (.int (Int32.ofNat lo)), .val (.ref ad), o18, .unset] [] by
      refine Run.pure hK (seg := [(374, .iload 13, 2)]) (by decide +kernel) (pc' := 376) (L' := #[.val (.int i0), .val (.int i1), .val (.int i2), .val (.int i3), .val (.int i4), .val (.int c0), .val (.int c1), .val (.int c2), .val (.int (3 : Int32)), .val (.int (1 : Int32)), .val (.int (1 : Int32)), .val (.int (1 : Int32)), .val (.int cb), .val (.int q), .val (.int (Int32.ofNat (body q ([c0, c1, c2] : List Int32)).length)), .val (.int (Int32.ofNat (8 - (body q ([c0, c1, c2] : List Int32)).length))), .val (.int (Int32.ofNat lo)), .val (.ref ad), .val (.int (Int32.ofNat (lo + (pre q ++ enc q ([c0, c1, c2] : List Int32)).length))), .unset]) (S' := [(.int q)]) rfl ?_
      refine Run.ifz hK (cd := .eq) (o := 13) (by decide +kernel) (by decide) (pc' := 389) rfl (fun r1 => ?_) (fun r1 => ?_)
      · replace r1 := (h_eq _ _).1 r1
        have pq : pre q = [] := if_pos r1
        have eb : body q ([c0, c1, c2] : List Int32) = (pre q ++ enc q ([c0, c1, c2] : List Int32)) := by rw [body_pre]; rw [pq, List.append_nil]
        have A9 : Arv Z hu2 ad kd .char 8 ((Sp Bl lo (body q ([c0, c1, c2] : List Int32))).map Value.int) (.int 0) := by rw [eb]; exact Au2
        exact s389 _ _ A9
      · replace r1 := (h_eq _ _).2 r1
        have pq : pre q = [34] := if_neg r1
        have eb : body q ([c0, c1, c2] : List Int32) = (pre q ++ enc q ([c0, c1, c2] : List Int32)) ++ [(34 : Int32)] := by rw [body_pre]; rw [show pre q = [34] from pq]
        have lw : lo + (pre q ++ enc q ([c0, c1, c2] : List Int32)).length < 8 := by rw [List.length_append] at hll; rw [pq] at hll; simp only [List.length_append, List.length_cons, List.length_nil] at hll ⊢; rw [pq]; simp only [List.length_cons, List.length_nil]; omega
        refine Run.pure hK (seg := [(379, .aload 17, 2), (381, .iload 18, 2), (383, .bipush 34, 2)]) (by decide +kernel) (pc' := 385) (L' := #[.val (.int i0), .val (.int i1), .val (.int i2), .val (.int i3), .val (.int i4), .val (.int c0), .val (.int c1), .val (.int c2), .val (.int (3 : Int32)), .val (.int (1 : Int32)), .val (.int (1 : Int32)), .val (.int (1 : Int32)), .val (.int cb), .val (.int q), .val (.int (Int32.ofNat (body q ([c0, c1, c2] : List Int32)).length)), .val (.int (Int32.ofNat (8 - (body q ([c0, c1, c2] : List Int32)).length))), .val (.int (Int32.ofNat lo)), .val (.ref ad), .val (.int (Int32.ofNat (lo + (pre q ++ enc q ([c0, c1, c2] : List Int32)).length))), .unset]) (S' := [(.int (34 : Int32)), (.int (Int32.ofNat (lo + (pre q ++ enc q ([c0, c1, c2] : List Int32)).length))), (.ref ad)]) rfl ?_
        refine Run.cst hK Au2 ⟨ofN_nn (by omega), by rw [Int32.lt_iff_toInt_lt, ofN (by omega), show (8 : Int32).toInt = 8 from rfl]; omega⟩ gdz (by decide +kernel) (fun hg Wg Bg => ?_)
        have Ag : Arv Z hg ad kd .char 8 ((Sp Bl lo ((pre q ++ enc q ([c0, c1, c2] : List Int32)) ++ [(34 : Int32)])).map Value.int) (.int 0) := by
          rw [← Sp_set (by omega), List.map_set]; rw [ofN_nat (by omega : lo + (pre q ++ enc q ([c0, c1, c2] : List Int32)).length ≤ 4000)] at Bg
          exact Bg.pad (set_pad2 _ _ (by rw [List.length_map, Sp_len (by omega)]; omega))
        refine Run.pure hK (seg := [(386, .iinc 18 1, 3)]) (by decide +kernel) (pc' := 389) (L' := #[.val (.int i0), .val (.int i1), .val (.int i2), .val (.int i3), .val (.int i4), .val (.int c0), .val (.int c1), .val (.int c2), .val (.int (3 : Int32)), .val (.int (1 : Int32)), .val (.int (1 : Int32)), .val (.int (1 : Int32)), .val (.int cb), .val (.int q), .val (.int (Int32.ofNat (body q ([c0, c1, c2] : List Int32)).length)), .val (.int (Int32.ofNat (8 - (body q ([c0, c1, c2] : List Int32)).length))), .val (.int (Int32.ofNat lo)), .val (.ref ad), .val (.int ((Int32.ofNat (lo + (pre q ++ enc q ([c0, c1, c2] : List Int32)).length)) + (1 : Int32))), .unset]) (S' := []) rfl ?_
        rw [← eb] at Ag
        exact s389 _ _ Ag
    intro f2 o18 A2
    rw [← body_pre] at hll
    refine Run.old (fun hO2 => ?_)
    refine Run.new hK (index := 29) (C := "java/lang/String") (n := 4) (hw _ (List.mem_of_getElem? (i := 18) rfl)) (hw _ (List.mem_of_getElem? (i := 19) rfl)) (hw _ (List.mem_of_getElem? (i := 20) rfl)) (by decide +kernel) (by decide) (by decide) (fun hs Es Xs Ds => ?_)
    obtain ⟨as_, zs⟩ : ∃ z, z = f2.size := ⟨_, rfl⟩
    rw [← zs]
    rw [← zs] at Xs Ds
    refine Run.pure hK (seg := [(392, .dup, 1), (393, .aload 17, 2)]) (by decide +kernel) (pc' := 395) (L' := #[.val (.int i0), .val (.int i1), .val (.int i2), .val (.int i3), .val (.int i4), .val (.int c0), .val (.int c1), .val (.int c2), .val (.int (3 : Int32)), .val (.int (1 : Int32)), .val (.int (1 : Int32)), .val (.int (1 : Int32)), .val (.int cb), .val (.int q), .val (.int (Int32.ofNat (body q ([c0, c1, c2] : List Int32)).length)), .val (.int (Int32.ofNat (8 - (body q ([c0, c1, c2] : List Int32)).length))), .val (.int (Int32.ofNat lo)), .val (.ref ad), o18, .unset]) (S' := [(.ref ad), (.ref as_), (.ref as_)]) rfl ?_
    have Vs := Ds (Or.inr (hw _ (List.mem_of_getElem? (i := 46) rfl))) (ty := .array .byte) (by decide)
    have Cs := Ds (Or.inr (hw _ (List.mem_of_getElem? (i := 44) rfl))) (ty := .byte) (by decide)
    have hSl : (Sp Bl lo (body q ([c0, c1, c2] : List Int32))).length = 8 := by rw [Sp_len (by omega)]; exact hB
    refine Run.special hK (index := 31) (y := (⟨"java/lang/String", "<init>", "([C)V"⟩ : MethodName)) (Wt := 1) (kc := 1) (ks := 8) rfl (hw _ (List.mem_of_getElem? (i := 21) rfl)) (hw _ (List.mem_of_getElem? (i := 22) rfl)) (hw _ (List.mem_of_getElem? (i := 23) rfl)) (by decide) (a := as_) (fun _ q => q) (Cal.more (kc' := 1) (ks' := 8) (cal_new1 (g_backV hw) (hw _ (List.mem_of_getElem? (i := 19) rfl)) (by rw [zs]; exact hO2.1) (List.mem_cons_self ..) Xs Vs Cs (A2.ext Es) O2 P5 (by rw [hSl]; rfl) (by omega) (by omega) (fun c hc => (Sp_mem hc).elim (fun z => (hbr c z).2) (fun z => body_in hk c z)) (by decide) (by decide)) (by decide) (by omega)) rfl (argsL := [(.ref ad)]) (rest := [(.ref as_)]) (lenOf pd_s1 rfl) rfl (Nat.le_of_ble_eq_true rfl) (by decide +kernel) (by decide) (by decide) (fun vj hj qj nj => ?_)
    obtain ⟨rfl, Fj, Kj⟩ := qj
    refine Run.static hK (index := 34) (y := (⟨"com/example/libidem/libidem/http/KeyHeader", "parse", "(Ljava/lang/String;)Ljava/lang/String;"⟩ : MethodName)) (Wt := 0) (kc := 8) (ks := 72) (hw _ (List.mem_of_getElem? (i := 47) rfl)) (hw _ (List.mem_of_getElem? (i := 48) rfl)) (hw _ (List.mem_of_getElem? (i := 49) rfl)) (hw _ (List.mem_of_getElem? (i := 50) rfl)) (by decide) (W' := []) (fun _ q => nomatch q) (Ctr.cal (c_par G as_ q lo hj Fj hB (fun c hc => (hbr c hc).1) (by omega) hk (by simp) hq) (hw _ (List.mem_of_getElem? (i := 50) rfl)) (hw _ (List.mem_of_getElem? (i := 49) rfl)) (by decide) (by decide)) rfl (argsL := [(.ref as_)]) (rest := []) (lenOf pd_ss rfl) rfl (Nat.le_of_ble_eq_true rfl) (by decide +kernel) (by decide) (by decide) (fun vP hP qP nP => ?_)
    obtain ⟨aP, rfl, FP⟩ := qP
    refine Run.pure hK (seg := [(401, .astore 19, 2), (403, .aload 19, 2)]) (by decide +kernel) (pc' := 405) (L' := #[.val (.int i0), .val (.int i1), .val (.int i2), .val (.int i3), .val (.int i4), .val (.int c0), .val (.int c1), .val (.int c2), .val (.int (3 : Int32)), .val (.int (1 : Int32)), .val (.int (1 : Int32)), .val (.int (1 : Int32)), .val (.int cb), .val (.int q), .val (.int (Int32.ofNat (body q ([c0, c1, c2] : List Int32)).length)), .val (.int (Int32.ofNat (8 - (body q ([c0, c1, c2] : List Int32)).length))), .val (.int (Int32.ofNat lo)), .val (.ref ad), o18, .val (.ref aP)]) (S' := [(.ref aP)]) rfl ?_
    refine Run.virtual hK (index := 40) (y := (⟨"java/lang/String", "length", "()I"⟩ : MethodName)) (z := (⟨"java/lang/String", "length", "()I"⟩ : MethodName)) (C := "java/lang/String") (Wt := 0) (kc := 0) (ks := 0) (hw _ (List.mem_of_getElem? (i := 213) rfl)) (hw _ (List.mem_of_getElem? (i := 52) rfl)) (nfS (hw _ (List.mem_of_getElem? (i := 54) rfl))) (hw _ (List.mem_of_getElem? (i := 54) rfl)) (hw _ (List.mem_of_getElem? (i := 53) rfl)) (by decide) (a := aP) FP.1 (fun _ q => q) (cal_len (g_lenW hw) (hw _ (List.mem_of_getElem? (i := 19) rfl)) FP O2 P5 (by decide) (by decide)) rfl (argsL := []) (rest := []) (lenOf pd_len rfl) rfl (Nat.le_of_ble_eq_true rfl) (by decide +kernel) (by decide) (by decide) (fun vL hL qL nL => ?_)
    obtain ⟨rfl, rfl⟩ := qL
    rw [show Int32.ofNat ([c0, c1, c2] : List Int32).length = (3 : Int32) from rfl]
    refine Run.pure hK (seg := [(408, .iload 8, 2)]) (by decide +kernel) (pc' := 410) (L' := #[.val (.int i0), .val (.int i1), .val (.int i2), .val (.int i3), .val (.int i4), .val (.int c0), .val (.int c1), .val (.int c2), .val (.int (3 : Int32)), .val (.int (1 : Int32)), .val (.int (1 : Int32)), .val (.int (1 : Int32)), .val (.int cb), .val (.int q), .val (.int (Int32.ofNat (body q ([c0, c1, c2] : List Int32)).length)), .val (.int (Int32.ofNat (8 - (body q ([c0, c1, c2] : List Int32)).length))), .val (.int (Int32.ofNat lo)), .val (.ref ad), o18, .val (.ref aP)]) (S' := [(.int (3 : Int32)), (.int (3 : Int32))]) rfl ?_
    refine Run.icmp hK (cd := .ne) (o := 55) (by decide +kernel) (by decide) (pc' := 465) rfl (fun q => by replace q := (h_ne _ _).1 q; exact absurd rfl q) (fun _ => ?_)
    refine Run.pure hK (seg := [(413, .iload 9, 2)]) (by decide +kernel) (pc' := 415) (L' := #[.val (.int i0), .val (.int i1), .val (.int i2), .val (.int i3), .val (.int i4), .val (.int c0), .val (.int c1), .val (.int c2), .val (.int (3 : Int32)), .val (.int (1 : Int32)), .val (.int (1 : Int32)), .val (.int (1 : Int32)), .val (.int cb), .val (.int q), .val (.int (Int32.ofNat (body q ([c0, c1, c2] : List Int32)).length)), .val (.int (Int32.ofNat (8 - (body q ([c0, c1, c2] : List Int32)).length))), .val (.int (Int32.ofNat lo)), .val (.ref ad), o18, .val (.ref aP)]) (S' := [(.int (1 : Int32))]) rfl ?_
    refine Run.ifz hK (cd := .eq) (o := 14) (by decide +kernel) (by decide) (pc' := 429) rfl (fun q => by replace q := (h_eq _ _).1 q; exact absurd q (by decide)) (fun _ => ?_)
    refine Run.pure hK (seg := [(418, .aload 19, 2), (420, .iconst 0, 1)]) (by decide +kernel) (pc' := 421) (L' := #[.val (.int i0), .val (.int i1), .val (.int i2), .val (.int i3), .val (.int i4), .val (.int c0), .val (.int c1), .val (.int c2), .val (.int (3 : Int32)), .val (.int (1 : Int32)), .val (.int (1 : Int32)), .val (.int (1 : Int32)), .val (.int cb), .val (.int q), .val (.int (Int32.ofNat (body q ([c0, c1, c2] : List Int32)).length)), .val (.int (Int32.ofNat (8 - (body q ([c0, c1, c2] : List Int32)).length))), .val (.int (Int32.ofNat lo)), .val (.ref ad), o18, .val (.ref aP)]) (S' := [(.int (0 : Int32)), (.ref aP)]) rfl ?_
    refine Run.virtual hK (index := 44) (y := (⟨"java/lang/String", "charAt", "(I)C"⟩ : MethodName)) (z := (⟨"java/lang/String", "charAt", "(I)C"⟩ : MethodName)) (C := "java/lang/String") (Wt := 0) (kc := 0) (ks := 0) (hw _ (List.mem_of_getElem? (i := 214) rfl)) (hw _ (List.mem_of_getElem? (i := 62) rfl)) (nfS (hw _ (List.mem_of_getElem? (i := 64) rfl))) (hw _ (List.mem_of_getElem? (i := 64) rfl)) (hw _ (List.mem_of_getElem? (i := 63) rfl)) (by decide) (a := aP) FP.1 (fun _ q => q) (cal_chr (i := 0) (g_chN hw) (hw _ (List.mem_of_getElem? (i := 19) rfl)) FP O2 P5 O4.1 O4.2 (by simp) rfl (by decide) (by decide)) rfl (argsL := [(.int (0 : Int32))]) (rest := []) (lenOf pd_ch rfl) rfl (Nat.le_of_ble_eq_true rfl) (by decide +kernel) (by decide) (by decide) (fun vz0 hz0 qz0 nz0 => ?_)
    obtain ⟨rfl, rfl⟩ := qz0
    rw [show ([c0, c1, c2] : List Int32).getD 0 0 = c0 from rfl]
    refine Run.pure hK (seg := [(424, .iload 5, 2)]) (by decide +kernel) (pc' := 426) (L' := #[.val (.int i0), .val (.int i1), .val (.int i2), .val (.int i3), .val (.int i4), .val (.int c0), .val (.int c1), .val (.int c2), .val (.int (3 : Int32)), .val (.int (1 : Int32)), .val (.int (1 : Int32)), .val (.int (1 : Int32)), .val (.int cb), .val (.int q), .val (.int (Int32.ofNat (body q ([c0, c1, c2] : List Int32)).length)), .val (.int (Int32.ofNat (8 - (body q ([c0, c1, c2] : List Int32)).length))), .val (.int (Int32.ofNat lo)), .val (.ref ad), o18, .val (.ref aP)]) (S' := [(.int c0), (.int c0)]) rfl ?_
    refine Run.icmp hK (cd := .ne) (o := 39) (by decide +kernel) (by decide) (pc' := 465) rfl (fun q => by replace q := (h_ne _ _).1 q; exact absurd rfl q) (fun _ => ?_)
    refine Run.pure hK (seg := [(429, .iload 10, 2)]) (by decide +kernel) (pc' := 431) (L' := #[.val (.int i0), .val (.int i1), .val (.int i2), .val (.int i3), .val (.int i4), .val (.int c0), .val (.int c1), .val (.int c2), .val (.int (3 : Int32)), .val (.int (1 : Int32)), .val (.int (1 : Int32)), .val (.int (1 : Int32)), .val (.int cb), .val (.int q), .val (.int (Int32.ofNat (body q ([c0, c1, c2] : List Int32)).length)), .val (.int (Int32.ofNat (8 - (body q ([c0, c1, c2] : List Int32)).length))), .val (.int (Int32.ofNat lo)), .val (.ref ad), o18, .val (.ref aP)]) (S' := [(.int (1 : Int32))]) rfl ?_
    refine Run.ifz hK (cd := .eq) (o := 14) (by decide +kernel) (by decide) (pc' := 445) rfl (fun q => by replace q := (h_eq _ _).1 q; exact absurd q (by decide)) (fun _ => ?_)
    refine Run.pure hK (seg := [(434, .aload 19, 2), (436, .iconst 1, 1)]) (by decide +kernel) (pc' := 437) (L' := #[.val (.int i0), .val (.int i1), .val (.int i2), .val (.int i3), .val (.int i4), .val (.int c0), .val (.int c1), .val (.int c2), .val (.int (3 : Int32)), .val (.int (1 : Int32)), .val (.int (1 : Int32)), .val (.int (1 : Int32)), .val (.int cb), .val (.int q), .val (.int (Int32.ofNat (body q ([c0, c1, c2] : List Int32)).length)), .val (.int (Int32.ofNat (8 - (body q ([c0, c1, c2] : List Int32)).length))), .val (.int (Int32.ofNat lo)), .val (.ref ad), o18, .val (.ref aP)]) (S' := [(.int (1 : Int32)), (.ref aP)]) rfl ?_
    refine Run.virtual hK (index := 44) (y := (⟨"java/lang/String", "charAt", "(I)C"⟩ : MethodName)) (z := (⟨"java/lang/String", "charAt", "(I)C"⟩ : MethodName)) (C := "java/lang/String") (Wt := 0) (kc := 0) (ks := 0) (hw _ (List.mem_of_getElem? (i := 214) rfl)) (hw _ (List.mem_of_getElem? (i := 62) rfl)) (nfS (hw _ (List.mem_of_getElem? (i := 64) rfl))) (hw _ (List.mem_of_getElem? (i := 64) rfl)) (hw _ (List.mem_of_getElem? (i := 63) rfl)) (by decide) (a := aP) FP.1 (fun _ q => q) (cal_chr (i := 1) (g_chN hw) (hw _ (List.mem_of_getElem? (i := 19) rfl)) FP O2 P5 O4.1 O4.2 (by simp) rfl (by decide) (by decide)) rfl (argsL := [(.int (1 : Int32))]) (rest := []) (lenOf pd_ch rfl) rfl (Nat.le_of_ble_eq_true rfl) (by decide +kernel) (by decide) (by decide) (fun vz1 hz1 qz1 nz1 => ?_)
    obtain ⟨rfl, rfl⟩ := qz1
    rw [show ([c0, c1, c2] : List Int32).getD 1 0 = c1 from rfl]
    refine Run.pure hK (seg := [(440, .iload 6, 2)]) (by decide +kernel) (pc' := 442) (L' := #[.val (.int i0), .val (.int i1), .val (.int i2), .val (.int i3), .val (.int i4), .val (.int c0), .val (.int c1), .val (.int c2), .val (.int (3 : Int32)), .val (.int (1 : Int32)), .val (.int (1 : Int32)), .val (.int (1 : Int32)), .val (.int cb), .val (.int q), .val (.int (Int32.ofNat (body q ([c0, c1, c2] : List Int32)).length)), .val (.int (Int32.ofNat (8 - (body q ([c0, c1, c2] : List Int32)).length))), .val (.int (Int32.ofNat lo)), .val (.ref ad), o18, .val (.ref aP)]) (S' := [(.int c1), (.int c1)]) rfl ?_
    refine Run.icmp hK (cd := .ne) (o := 23) (by decide +kernel) (by decide) (pc' := 465) rfl (fun q => by replace q := (h_ne _ _).1 q; exact absurd rfl q) (fun _ => ?_)
    refine Run.pure hK (seg := [(445, .iload 11, 2)]) (by decide +kernel) (pc' := 447) (L' := #[.val (.int i0), .val (.int i1), .val (.int i2), .val (.int i3), .val (.int i4), .val (.int c0), .val (.int c1), .val (.int c2), .val (.int (3 : Int32)), .val (.int (1 : Int32)), .val (.int (1 : Int32)), .val (.int (1 : Int32)), .val (.int cb), .val (.int q), .val (.int (Int32.ofNat (body q ([c0, c1, c2] : List Int32)).length)), .val (.int (Int32.ofNat (8 - (body q ([c0, c1, c2] : List Int32)).length))), .val (.int (Int32.ofNat lo)), .val (.ref ad), o18, .val (.ref aP)]) (S' := [(.int (1 : Int32))]) rfl ?_
    refine Run.ifz hK (cd := .eq) (o := 14) (by decide +kernel) (by decide) (pc' := 461) rfl (fun q => by replace q := (h_eq _ _).1 q; exact absurd q (by decide)) (fun _ => ?_)
    refine Run.pure hK (seg := [(450, .aload 19, 2), (452, .iconst 2, 1)]) (by decide +kernel) (pc' := 453) (L' := #[.val (.int i0), .val (.int i1), .val (.int i2), .val (.int i3), .val (.int i4), .val (.int c0), .val (.int c1), .val (.int c2), .val (.int (3 : Int32)), .val (.int (1 : Int32)), .val (.int (1 : Int32)), .val (.int (1 : Int32)), .val (.int cb), .val (.int q), .val (.int (Int32.ofNat (body q ([c0, c1, c2] : List Int32)).length)), .val (.int (Int32.ofNat (8 - (body q ([c0, c1, c2] : List Int32)).length))), .val (.int (Int32.ofNat lo)), .val (.ref ad), o18, .val (.ref aP)]) (S' := [(.int (2 : Int32)), (.ref aP)]) rfl ?_
    refine Run.virtual hK (index := 44) (y := (⟨"java/lang/String", "charAt", "(I)C"⟩ : MethodName)) (z := (⟨"java/lang/String", "charAt", "(I)C"⟩ : MethodName)) (C := "java/lang/String") (Wt := 0) (kc := 0) (ks := 0) (hw _ (List.mem_of_getElem? (i := 214) rfl)) (hw _ (List.mem_of_getElem? (i := 62) rfl)) (nfS (hw _ (List.mem_of_getElem? (i := 64) rfl))) (hw _ (List.mem_of_getElem? (i := 64) rfl)) (hw _ (List.mem_of_getElem? (i := 63) rfl)) (by decide) (a := aP) FP.1 (fun _ q => q) (cal_chr (i := 2) (g_chN hw) (hw _ (List.mem_of_getElem? (i := 19) rfl)) FP O2 P5 O4.1 O4.2 (by simp) rfl (by decide) (by decide)) rfl (argsL := [(.int (2 : Int32))]) (rest := []) (lenOf pd_ch rfl) rfl (Nat.le_of_ble_eq_true rfl) (by decide +kernel) (by decide) (by decide) (fun vz2 hz2 qz2 nz2 => ?_)
    obtain ⟨rfl, rfl⟩ := qz2
    rw [show ([c0, c1, c2] : List Int32).getD 2 0 = c2 from rfl]
    refine Run.pure hK (seg := [(456, .iload 7, 2)]) (by decide +kernel) (pc' := 458) (L' := #[.val (.int i0), .val (.int i1), .val (.int i2), .val (.int i3), .val (.int i4), .val (.int c0), .val (.int c1), .val (.int c2), .val (.int (3 : Int32)), .val (.int (1 : Int32)), .val (.int (1 : Int32)), .val (.int (1 : Int32)), .val (.int cb), .val (.int q), .val (.int (Int32.ofNat (body q ([c0, c1, c2] : List Int32)).length)), .val (.int (Int32.ofNat (8 - (body q ([c0, c1, c2] : List Int32)).length))), .val (.int (Int32.ofNat lo)), .val (.ref ad), o18, .val (.ref aP)]) (S' := [(.int c2), (.int c2)]) rfl ?_
    refine Run.icmp hK (cd := .ne) (o := 7) (by decide +kernel) (by decide) (pc' := 465) rfl (fun q => by replace q := (h_ne _ _).1 q; exact absurd rfl q) (fun _ => ?_)
    refine Run.pure hK (seg := [(461, .iconst 1, 1), (462, .goto 4, 3)]) (by decide +kernel) (pc' := 466) (L' := #[.val (.int i0), .val (.int i1), .val (.int i2), .val (.int i3), .val (.int i4), .val (.int c0), .val (.int c1), .val (.int c2), .val (.int (3 : Int32)), .val (.int (1 : Int32)), .val (.int (1 : Int32)), .val (.int (1 : Int32)), .val (.int cb), .val (.int q), .val (.int (Int32.ofNat (body q ([c0, c1, c2] : List Int32)).length)), .val (.int (Int32.ofNat (8 - (body q ([c0, c1, c2] : List Int32)).length))), .val (.int (Int32.ofNat lo)), .val (.ref ad), o18, .val (.ref aP)]) (S' := [(.int (1 : Int32))]) rfl ?_
    exact Run.retw hK (i := .ireturn) rfl (Or.inl ⟨rfl, Or.inr (Or.inl rfl), _, rfl⟩) (by decide +kernel) (by decide) (by decide) rfl
set_option maxRecDepth 65536 in
set_option maxHeartbeats 40000000 in
theorem comes_1 {Post : Tables → Env → Array Value → State → Outcome → State → Prop} (hpost : ∀ tb e args s v u, (limb_1_1.after args s (.returned v) u = true ∧ limb_1_2.after args s (.returned v) u = true ∧ True) → ReturnedEndW s (.returned v) u (Jvm.fieldLocs frame_1_writes args s ++ Jvm.arrayLocs frame_1_arrays args s ++ Jvm.staticLocs frame_1_statics s) 32 2240 → Post tb e args s (.returned v) u) :
    ArmFor flags0 classFile x code maxLocals ret World_1 tables_1 room_1 Calls_1 rest_1 Pre_1 Post := by
  intro l hfl _ _ p e ha hc hk s m args below hf hA hF happ hP
  obtain ⟨hcalls, hrest, hpre⟩ := hP
  obtain ⟨-, -, -, hnamed, -, -, -, hat⟩ := (Spec.applies_iff hf).mp happ
  obtain ⟨hg, hn⟩ := and_e (Cond.before_iff.mp (show (Jvm.Cond.and given_1 narrow_1).before args s = true from hpre))
  obtain ⟨k0, r0⟩ := and_e hg
  obtain ⟨k1, r1⟩ := and_e r0
  obtain ⟨k2, r2⟩ := and_e r1
  obtain ⟨k3, r3⟩ := and_e r2
  obtain ⟨k4, r4⟩ := and_e r3
  obtain ⟨w0, w1, w2, w3, w4, rfl⟩ : ∃ w0 w1 w2 w3 w4 : Value, args = #[w0, w1, w2, w3, w4] := by
    have hs : args.size = 5 := by simpa [Cond.value, given_1] using k0
    obtain ⟨L⟩ := args
    match L, hs with
    | [w0, w1, w2, w3, w4], _ => exact ⟨w0, w1, w2, w3, w4, rfl⟩
  have hw := fun d (hd : d ∈ tables_1) => atoms_spec (ws := Jvm.Cond.code x code maxLocals ret :: tables_1) hat d (List.mem_cons_of_mem _ hd)
  obtain ⟨i0, f0⟩ := is_v k1
  obtain rfl : w0 = (.int i0) := Option.some.inj f0
  obtain ⟨i1, f1⟩ := is_v k2
  obtain rfl : w1 = (.int i1) := Option.some.inj f1
  obtain ⟨i2, f2⟩ := is_v k3
  obtain rfl : w2 = (.int i2) := Option.some.inj f2
  obtain ⟨i3, f3⟩ := is_v k4
  obtain rfl : w3 = (.int i3) := Option.some.inj f3
  obtain ⟨i4, f4⟩ := is_v r4
  obtain rfl : w4 = (.int i4) := Option.some.inj f4
  obtain ⟨hsets, hown0⟩ := atoms_of _ (rest_1_c_eq ▸ (show rest_1_c.before _ s = true from hrest))
  have nz := not_v (Cond.before_iff.mp (hsets _ (List.mem_of_getElem? (i := 2) rfl)))
  obtain ⟨z0, ez⟩ := is_v (Cond.before_iff.mp (hsets _ (List.mem_of_getElem? (i := 1) rfl)))
  have O2 : Sta s s.heap "java/lang/String" "COMPACT_STRINGS" "Z" (.int z0) := Sta.start ez (Or.inl (hsets _ (List.mem_of_getElem? (i := 0) rfl)))
  have P5 : ¬ (z0 = (0 : Int32)) := gotF (Cond.eq_ints ez (Term.int_eval (0))) nz
  obtain ⟨fm, ef, rf⟩ := isR_v (Cond.before_iff.mp (hsets _ (List.mem_of_getElem? (i := 8) rfl)))
  have O4 : Sta s s.heap "jdk/internal/util/Preconditions" "SIOOBE_FORMATTER" "Ljava/util/function/BiFunction;" fm := Sta.start ef (Or.inl (hsets _ (List.mem_of_getElem? (i := 7) rfl)))
  have hEL : EW s _ consts_1 := EW.cons (hw _ (List.mem_of_getElem? (i := 123) rfl)) (by decide) (EW.cons (hw _ (List.mem_of_getElem? (i := 221) rfl)) (by decide) (EW.nil))
  have hheld : ∀ p ∈ consts_1, Jvm.Lit.constHeld s p.1 p.2 := fun p hp => hcalls.1 p hp
  have hCH : CHv s consts_1 s.vm s.heap := CHv.start hEL hheld (show (Jvm.Cond.not (Jvm.Cond.eq (Jvm.Term.static "java/lang/String" "COMPACT_STRINGS" "Z") (Jvm.Term.int (0 : Int32)))).before _ s = true from (hsets _ (List.mem_of_getElem? (i := 2) rfl))) (hw _ (List.mem_of_getElem? (i := 36) rfl)) (hw _ (List.mem_of_getElem? (i := 19) rfl))
  obtain ⟨n, o, g1, g2, g3, v, Lo, rfl, hv, hF', -, hq, hwn, -⟩ := c_law (⟨hw, hEL, O2, P5, O4, rf⟩ : Env1 s _ z0 fm) i0 i1 i2 i3 i4 s.heap p e ha hc hk s m _ below hf ((Spec.applies_iff_loose hf).mp happ).1 ⟨rfl, State.Warmed39.refl s, rfl, hCH, fun _ q => (nomatch q), Nat.le_refl _, fun _ _ q => q⟩ trivial
  obtain rfl : v = some (.int 1) := hv
  refine ⟨n, _, g1, g2, g3, hpost _ _ _ _ _ _ ⟨Cond.after_iff.mpr rfl, Cond.after_iff.mpr (eq_i res_at (Term.int_eval (1)) rfl), trivial⟩ ⟨hq.1, hq.2.1, hq.2.2.1, (hq.2.2.2.sift fun y hy => Or.inr (hF' y hy)).mono (by decide) (by decide)⟩⟩
theorem main_1_1 : Claimed_1_1 := comes_1 fun _ _ _ _ _ _ h hF => ⟨h.1, hF⟩
theorem main_1_2 : Claimed_1_2 := comes_1 fun _ _ _ _ _ _ h hF => ⟨h.2.1, hF⟩
end Jvm.Pilot.@@N@@
namespace Jvm.Pilot.@@N@@
open Jvm Jvm.ClassFile Sem Op Lib Jvm.Free Jvm.Stand Jvm.Pilot.@@N@@.Jvm.D
/-! MADE BY PROGRAM (witnessworld.py) out of the Statement's table words and the real class files: 26 classes; the members and pool entries that the words name. The judged class is class 1, her method 6. -/
namespace start1
open Jvm.ClassFile
def u (s : String) : CpInfo := .utf8 (stringToUtf16 s)
/-- a pool by its gaps: so many unusable entries, then the entry; so many at the end -/
def gap : Nat → List CpInfo → List CpInfo
  | 0, r => r
  | n + 1, r => .unusable :: gap n r
def poolList (es : List (Nat × CpInfo)) (last : Nat) : List CpInfo := es.foldr (fun e r => gap e.1 (e.2 :: r)) (gap last [])
def pool (es : List (Nat × CpInfo)) (last : Nat) : Array CpInfo := ⟨poolList es last⟩
def fileOf (pool : Array CpInfo) (this : Nat) (attrs : Array Attribute := #[]) (ms : Array MethodInfo := #[]) (fl : Nat := 33) (sup : Nat := 0) (ifs : Array Nat := #[]) (fds : Array FieldInfo := #[]) : ClassFile where
  minorVersion := 0
  majorVersion := 65
  constantPool := pool
  accessFlags := fl
  thisClass := this
  superClass := sup
  interfaces := ifs
  fields := fds
  methods := ms
  attributes := attrs
def plain (name : String) (sup : Option ClassId) : Class where
  name := name
  kind := .ordinary
  loader := none
  accessFlags := 33
  super := sup
  interfaces := #[]
  cf := none
  fields := #[]
  methods := #[]
  instanceTypes := #[]
  staticTypes := #[]
  resolved := #[]
  callSites := []
  init := .initialized
  statics := none
  mirror := none

def pool0 : Array CpInfo := pool [(5, u "<init>"), (0, u "()V"), (1, .class_ 10), (1, u "java/lang/Object")] 113

def k0c0 : Code := { maxStack := 0, maxLocals := 1, code := object_method_1_code, exceptionTable := #[], attributes := #[] }
def k0m0 : Method := { name := "<init>", desc := "()V", sig := { parameters := [], returnType := none }, accessFlags := 1, code := some k0c0 }
/-- java/lang/Object -/
def k0 : Class := { plain "java/lang/Object" none with
  accessFlags := 33
  interfaces := #[]
  cf := some (fileOf pool0 8 #[] #[{ accessFlags := 1, nameIndex := 5, descriptorIndex := 6, attributes := #[] }] 33 0 #[] #[])
  fields := #[]
  methods := #[k0m0]
  instanceTypes := #[]
  staticTypes := #[]
  resolved := Array.replicate 124 none
  statics := none }

def pool1 : Array CpInfo := pool [(2, .class_ 4), (1, u "java/lang/Object"), (0, u "<init>"), (0, u "()V"), (0, .integer 2147483647), (0, .methodref 9 10), (0, .class_ 11), (0, .nameAndType 12 13), (0, u "com/example/libidem/libidem/http/KeyHeaderParsePinLaw"), (0, u "esc"), (0, u "(C)Z"), (0, .methodref 9 15), (0, .nameAndType 16 17), (0, u "printable"), (0, u "(I)C"), (0, .methodref 9 19), (0, .nameAndType 20 13), (0, u "bareOk"), (0, .methodref 9 22), (0, .nameAndType 23 24), (0, u "blank"), (0, u "(II)C"), (0, .methodref 9 26), (0, .nameAndType 27 28), (0, u "put"), (0, u "([CIZCZ)I"), (0, .class_ 30), (0, u "java/lang/String"), (0, .methodref 29 32), (0, .nameAndType 5 33), (0, u "([C)V"), (0, .methodref 35 36), (0, .class_ 37), (0, .nameAndType 38 39), (0, u "com/example/libidem/libidem/http/KeyHeader"), (0, u "parse"), (0, u "(Ljava/lang/String;)Ljava/lang/String;"), (0, .methodref 29 41), (0, .nameAndType 42 43), (0, u "length"), (0, u "()I"), (0, .methodref 29 45), (0, .nameAndType 46 17), (0, u "charAt"), (3, u "law"), (0, u "(IIIII)Z")] 4

def k1m0 : Method := { name := "<init>", desc := "()V", sig := { parameters := [], returnType := none }, accessFlags := 2, code := none }
def k1c1 : Code := { maxStack := 3, maxLocals := 1, code := method_2_code, exceptionTable := #[], attributes := #[] }
def k1m1 : Method := { name := "printable", desc := "(I)C", sig := { parameters := [.int], returnType := some .char }, accessFlags := 10, code := some k1c1 }
def k1c2 : Code := { maxStack := 2, maxLocals := 1, code := method_3_code, exceptionTable := #[], attributes := #[] }
def k1m2 : Method := { name := "bareOk", desc := "(C)Z", sig := { parameters := [.char], returnType := some .boolean }, accessFlags := 10, code := some k1c2 }
def k1c3 : Code := { maxStack := 2, maxLocals := 1, code := method_4_code, exceptionTable := #[], attributes := #[] }
def k1m3 : Method := { name := "esc", desc := "(C)Z", sig := { parameters := [.char], returnType := some .boolean }, accessFlags := 10, code := some k1c3 }
def k1c4 : Code := { maxStack := 2, maxLocals := 2, code := method_5_code, exceptionTable := #[], attributes := #[] }
def k1m4 : Method := { name := "blank", desc := "(II)C", sig := { parameters := [.int, .int], returnType := some .char }, accessFlags := 10, code := some k1c4 }
def k1c5 : Code := { maxStack := 3, maxLocals := 6, code := method_6_code, exceptionTable := #[], attributes := #[] }
def k1m5 : Method := { name := "put", desc := "([CIZCZ)I", sig := { parameters := [(.array .char), .int, .boolean, .char, .boolean], returnType := some .int }, accessFlags := 10, code := some k1c5 }
def k1c6 : Code := { maxStack := 5, maxLocals := 20, code := code, exceptionTable := #[], attributes := #[] }
def k1m6 : Method := { name := "law", desc := "(IIIII)Z", sig := { parameters := [.int, .int, .int, .int, .int], returnType := some .boolean }, accessFlags := 9, code := some k1c6 }
/-- com/example/libidem/libidem/http/KeyHeaderParsePinLaw -/
def k1 : Class := { plain "com/example/libidem/libidem/http/KeyHeaderParsePinLaw" (some 0) with
  accessFlags := 49
  interfaces := #[]
  cf := some (fileOf pool1 9 #[] #[{ accessFlags := 2, nameIndex := 5, descriptorIndex := 6, attributes := #[] }, { accessFlags := 10, nameIndex := 16, descriptorIndex := 17, attributes := #[] }, { accessFlags := 10, nameIndex := 20, descriptorIndex := 13, attributes := #[] }, { accessFlags := 10, nameIndex := 12, descriptorIndex := 13, attributes := #[] }, { accessFlags := 10, nameIndex := 23, descriptorIndex := 24, attributes := #[] }, { accessFlags := 10, nameIndex := 27, descriptorIndex := 28, attributes := #[] }, { accessFlags := 9, nameIndex := 50, descriptorIndex := 51, attributes := #[] }] 49 2 #[] #[])
  fields := #[]
  methods := #[k1m0, k1m1, k1m2, k1m3, k1m4, k1m5, k1m6]
  instanceTypes := #[]
  staticTypes := #[]
  resolved := Array.replicate 56 none
  statics := none }

def pool2 : Array CpInfo := pool [(1, .class_ 2), (0, u "java/io/Serializable"), (0, .class_ 4), (0, u "java/lang/Object")] 2

/-- java/io/Serializable -/
def k2 : Class := { plain "java/io/Serializable" (some 0) with
  accessFlags := 1537
  interfaces := #[]
  cf := some (fileOf pool2 1 #[] #[] 1537 3 #[] #[])
  fields := #[]
  methods := #[]
  instanceTypes := #[]
  staticTypes := #[]
  resolved := Array.replicate 7 none
  statics := none }

def pool3 : Array CpInfo := pool [(1, .class_ 2), (0, u "java/lang/Comparable"), (0, .class_ 4), (0, u "java/lang/Object")] 7

/-- java/lang/Comparable -/
def k3 : Class := { plain "java/lang/Comparable" (some 0) with
  accessFlags := 1537
  interfaces := #[]
  cf := some (fileOf pool3 1 #[] #[] 1537 3 #[] #[])
  fields := #[]
  methods := #[]
  instanceTypes := #[]
  staticTypes := #[]
  resolved := Array.replicate 12 none
  statics := none }

def pool4 : Array CpInfo := pool [(2, .class_ 4), (1, u "java/lang/CharSequence"), (42, .class_ 48), (0, u "java/lang/CharSequence$1CodePointIterator"), (10, .class_ 60), (0, u "java/lang/CharSequence$1CharIterator"), (5, .class_ 67), (0, u "java/lang/Object")] 63

/-- java/lang/CharSequence -/
def k4 : Class := { plain "java/lang/CharSequence" (some 0) with
  accessFlags := 1537
  interfaces := #[]
  cf := some (fileOf pool4 2 #[.nestMembers #[47, 59]] #[] 1537 66 #[] #[])
  fields := #[]
  methods := #[]
  instanceTypes := #[]
  staticTypes := #[]
  resolved := Array.replicate 131 none
  statics := none }

def pool5 : Array CpInfo := pool [(1, .class_ 2), (0, u "java/lang/constant/Constable"), (0, .class_ 4), (0, u "java/lang/Object")] 6

/-- java/lang/constant/Constable -/
def k5 : Class := { plain "java/lang/constant/Constable" (some 0) with
  accessFlags := 1537
  interfaces := #[]
  cf := some (fileOf pool5 1 #[] #[] 1537 3 #[] #[])
  fields := #[]
  methods := #[]
  instanceTypes := #[]
  staticTypes := #[]
  resolved := Array.replicate 11 none
  statics := none }

def pool6 : Array CpInfo := pool [(1, .class_ 2), (0, u "java/lang/constant/ConstantDesc"), (0, .class_ 4), (0, u "java/lang/Object")] 32

/-- java/lang/constant/ConstantDesc -/
def k6 : Class := { plain "java/lang/constant/ConstantDesc" (some 0) with
  accessFlags := 1537
  interfaces := #[]
  cf := some (fileOf pool6 1 #[] #[] 1537 3 #[] #[])
  fields := #[]
  methods := #[]
  instanceTypes := #[]
  staticTypes := #[]
  resolved := Array.replicate 37 none
  statics := none }

def pool7 : Array CpInfo := pool [(1, .methodref 2 3), (0, .class_ 4), (0, .nameAndType 5 6), (0, u "java/lang/Object"), (0, u "<init>"), (0, u "()V"), (2, .fieldref 10 11), (0, .class_ 12), (0, .nameAndType 13 14), (0, u "java/lang/String"), (0, u "value"), (0, u "[B"), (0, .fieldref 10 16), (0, .nameAndType 17 18), (0, u "coder"), (0, u "B"), (2, u "hash"), (0, u "I"), (2, u "hashIsZero"), (0, u "Z"), (0, .methodref 10 28), (0, .nameAndType 5 29), (0, u "([CIILjava/lang/Void;)V"), (8, .fieldref 10 39), (0, .nameAndType 40 26), (0, u "COMPACT_STRINGS"), (1, .class_ 44), (1, u "java/lang/StringUTF16"), (0, u "compress"), (1, .methodref 42 48), (0, .nameAndType 49 50), (0, u "coderFromArrayLen"), (0, u "([BI)B"), (3, .methodref 55 56), (0, .class_ 57), (0, .nameAndType 58 59), (0, u "java/util/Arrays"), (0, u "copyOfRange"), (0, u "([BII)[B"), (47, .class_ 109), (1, u "java/lang/StringLatin1"), (32, u "()Z"), (34, .methodref 42 178), (0, .nameAndType 45 179), (0, u "([CII)[B"), (31, u "([BB)V"), (122, u "()I"), (0, .methodref 10 336), (0, .nameAndType 17 337), (0, u "()B"), (2, u "()[B"), (22, u "([BI)C"), (12, u "([BI[BII)I"), (14, u "(II)V"), (35, u "(I)C"), (61, .methodref 10 490), (0, .nameAndType 5 491), (0, u "(Ljava/lang/AbstractStringBuilder;Ljava/lang/Void;)V"), (0, .methodref 10 493), (0, .nameAndType 494 142), (0, u "isLatin1"), (0, .methodref 107 496), (0, .nameAndType 497 363), (0, u "charAt"), (3, u "checkIndex"), (3, .methodref 10 506), (0, .nameAndType 507 334), (0, u "length"), (5, u "checkFromToIndex"), (7, .methodref 10 522), (0, .nameAndType 523 524), (0, u "checkBoundsBeginEnd"), (0, u "(III)V"), (24, .methodref 550 506), (0, .class_ 551), (0, u "java/lang/AbstractStringBuilder"), (0, .methodref 550 553), (0, .nameAndType 554 340), (0, u "getValue"), (4, .class_ 561), (1, u "jdk/internal/util/ArraysSupport"), (0, u "mismatch"), (12, .class_ 576), (0, u "java/lang/CharSequence"), (22, u "CASE_INSENSITIVE_ORDER"), (0, u "Ljava/util/Comparator;"), (6, .methodref 559 608), (0, .nameAndType 562 376), (15, .methodref 10 625), (0, .nameAndType 626 627), (0, u "startsWith"), (0, u "(Ljava/lang/String;I)Z"), (55, u "substring"), (0, u "(II)Ljava/lang/String;"), (0, .methodref 107 686), (0, .nameAndType 687 688), (0, u "newString"), (0, u "([BII)Ljava/lang/String;"), (321, u "([C)V"), (36, .methodref 550 493), (5, .fieldref 1054 1055), (0, .class_ 1056), (0, .nameAndType 1057 1058), (0, u "jdk/internal/util/Preconditions"), (0, u "SIOOBE_FORMATTER"), (0, u "Ljava/util/function/BiFunction;"), (0, .methodref 1054 1060), (0, .nameAndType 501 1061), (0, u "(IILjava/util/function/BiFunction;)I"), (0, .methodref 1054 1063), (0, .nameAndType 513 1064), (0, u "(IIILjava/util/function/BiFunction;)I"), (36, u "serialPersistentFields"), (0, u "[Ljava/io/ObjectStreamField;"), (0, .class_ 1104), (0, u "java/lang/String$CaseInsensitiveComparator"), (1, .class_ 1107), (0, u "java/io/Serializable"), (0, .class_ 1109), (0, u "java/lang/Comparable"), (0, .class_ 1111), (0, u "java/lang/constant/Constable"), (0, .class_ 1113), (0, u "java/lang/constant/ConstantDesc"), (2, u "serialVersionUID"), (0, u "J"), (3, u "REPL"), (0, u "C"), (2, u "LATIN1"), (1, u "UTF16"), (105, u "(Ljava/lang/StringBuilder;)V"), (23, u "(Ljava/lang/String;)Z")] 193

def k7m0 : Method := { name := "<init>", desc := "()V", sig := { parameters := [], returnType := none }, accessFlags := 1, code := none }
def k7c1 : Code := { maxStack := 5, maxLocals := 2, code := jdk_42_method_3_code, exceptionTable := #[], attributes := #[] }
def k7m1 : Method := { name := "<init>", desc := "([C)V", sig := { parameters := [(.array .char)], returnType := none }, accessFlags := 1, code := some k7c1 }
def k7c2 : Code := { maxStack := 3, maxLocals := 2, code := jdk_42_method_53_code, exceptionTable := #[], attributes := #[] }
def k7m2 : Method := { name := "<init>", desc := "(Ljava/lang/StringBuilder;)V", sig := { parameters := [(.object "java/lang/StringBuilder")], returnType := none }, accessFlags := 1, code := some k7c2 }
def k7c3 : Code := { maxStack := 2, maxLocals := 1, code := jdk_42_method_54_code, exceptionTable := #[], attributes := #[] }
def k7m3 : Method := { name := "length", desc := "()I", sig := { parameters := [], returnType := some .int }, accessFlags := 1, code := some k7c3 }
def k7c4 : Code := { maxStack := 2, maxLocals := 2, code := jdk_42_method_56_code, exceptionTable := #[], attributes := #[] }
def k7m4 : Method := { name := "charAt", desc := "(I)C", sig := { parameters := [.int], returnType := some .char }, accessFlags := 1, code := some k7c4 }
def k7c5 : Code := { maxStack := 5, maxLocals := 8, code := jdk_42_method_75_code, exceptionTable := #[], attributes := #[] }
def k7m5 : Method := { name := "startsWith", desc := "(Ljava/lang/String;I)Z", sig := { parameters := [(.object "java/lang/String"), .int], returnType := some .boolean }, accessFlags := 1, code := some k7c5 }
def k7c6 : Code := { maxStack := 3, maxLocals := 2, code := jdk_42_method_76_code, exceptionTable := #[], attributes := #[] }
def k7m6 : Method := { name := "startsWith", desc := "(Ljava/lang/String;)Z", sig := { parameters := [(.object "java/lang/String")], returnType := some .boolean }, accessFlags := 1, code := some k7c6 }
def k7c7 : Code := { maxStack := 3, maxLocals := 5, code := jdk_42_method_92_code, exceptionTable := #[], attributes := #[] }
def k7m7 : Method := { name := "substring", desc := "(II)Ljava/lang/String;", sig := { parameters := [.int, .int], returnType := some (.object "java/lang/String") }, accessFlags := 1, code := some k7c7 }
def k7c8 : Code := { maxStack := 4, maxLocals := 6, code := jdk_42_method_149_code, exceptionTable := #[], attributes := #[] }
def k7m8 : Method := { name := "<init>", desc := "([CIILjava/lang/Void;)V", sig := { parameters := [(.array .char), .int, .int, (.object "java/lang/Void")], returnType := none }, accessFlags := 2, code := some k7c8 }
def k7c9 : Code := { maxStack := 5, maxLocals := 5, code := jdk_42_method_150_code, exceptionTable := #[], attributes := #[] }
def k7m9 : Method := { name := "<init>", desc := "(Ljava/lang/AbstractStringBuilder;Ljava/lang/Void;)V", sig := { parameters := [(.object "java/lang/AbstractStringBuilder"), (.object "java/lang/Void")], returnType := none }, accessFlags := 0, code := some k7c9 }
def k7c10 : Code := { maxStack := 2, maxLocals := 3, code := jdk_42_method_151_code, exceptionTable := #[], attributes := #[] }
def k7m10 : Method := { name := "<init>", desc := "([BB)V", sig := { parameters := [(.array .byte), .byte], returnType := none }, accessFlags := 0, code := some k7c10 }
def k7c11 : Code := { maxStack := 1, maxLocals := 1, code := jdk_42_method_152_code, exceptionTable := #[], attributes := #[] }
def k7m11 : Method := { name := "coder", desc := "()B", sig := { parameters := [], returnType := some .byte }, accessFlags := 0, code := some k7c11 }
def k7c12 : Code := { maxStack := 1, maxLocals := 1, code := jdk_42_method_154_code, exceptionTable := #[], attributes := #[] }
def k7m12 : Method := { name := "isLatin1", desc := "()Z", sig := { parameters := [], returnType := some .boolean }, accessFlags := 0, code := some k7c12 }
def k7c13 : Code := { maxStack := 3, maxLocals := 2, code := jdk_42_method_155_code, exceptionTable := #[], attributes := #[] }
def k7m13 : Method := { name := "checkIndex", desc := "(II)V", sig := { parameters := [.int, .int], returnType := none }, accessFlags := 8, code := some k7c13 }
def k7c14 : Code := { maxStack := 4, maxLocals := 3, code := jdk_42_method_158_code, exceptionTable := #[], attributes := #[] }
def k7m14 : Method := { name := "checkBoundsBeginEnd", desc := "(III)V", sig := { parameters := [.int, .int, .int], returnType := none }, accessFlags := 8, code := some k7c14 }
/-- java/lang/String -/
def k7 : Class := { plain "java/lang/String" (some 0) with
  accessFlags := 49
  interfaces := #[2, 3, 4, 5, 6]
  cf := some (fileOf pool7 10 #[.nestMembers #[1103]] #[{ accessFlags := 1, nameIndex := 5, descriptorIndex := 6, attributes := #[] }, { accessFlags := 1, nameIndex := 5, descriptorIndex := 1010, attributes := #[] }, { accessFlags := 1, nameIndex := 5, descriptorIndex := 1233, attributes := #[] }, { accessFlags := 1, nameIndex := 507, descriptorIndex := 334, attributes := #[] }, { accessFlags := 1, nameIndex := 497, descriptorIndex := 427, attributes := #[] }, { accessFlags := 1, nameIndex := 626, descriptorIndex := 627, attributes := #[] }, { accessFlags := 1, nameIndex := 626, descriptorIndex := 1257, attributes := #[] }, { accessFlags := 1, nameIndex := 683, descriptorIndex := 684, attributes := #[] }, { accessFlags := 2, nameIndex := 5, descriptorIndex := 29, attributes := #[] }, { accessFlags := 0, nameIndex := 5, descriptorIndex := 491, attributes := #[] }, { accessFlags := 0, nameIndex := 5, descriptorIndex := 211, attributes := #[] }, { accessFlags := 0, nameIndex := 17, descriptorIndex := 337, attributes := #[] }, { accessFlags := 0, nameIndex := 494, descriptorIndex := 142, attributes := #[] }, { accessFlags := 8, nameIndex := 501, descriptorIndex := 391, attributes := #[] }, { accessFlags := 8, nameIndex := 523, descriptorIndex := 524, attributes := #[] }] 49 2 #[1106, 1108, 575, 1110, 1112] #[{ accessFlags := 18, nameIndex := 13, descriptorIndex := 14, attributes := #[] }, { accessFlags := 18, nameIndex := 17, descriptorIndex := 18, attributes := #[] }, { accessFlags := 2, nameIndex := 21, descriptorIndex := 22, attributes := #[] }, { accessFlags := 2, nameIndex := 25, descriptorIndex := 26, attributes := #[] }, { accessFlags := 26, nameIndex := 1116, descriptorIndex := 1117, attributes := #[] }, { accessFlags := 24, nameIndex := 40, descriptorIndex := 26, attributes := #[] }, { accessFlags := 26, nameIndex := 1101, descriptorIndex := 1102, attributes := #[] }, { accessFlags := 26, nameIndex := 1121, descriptorIndex := 1122, attributes := #[] }, { accessFlags := 25, nameIndex := 599, descriptorIndex := 600, attributes := #[] }, { accessFlags := 24, nameIndex := 1125, descriptorIndex := 18, attributes := #[] }, { accessFlags := 24, nameIndex := 1127, descriptorIndex := 18, attributes := #[] }])
  fields := #[{ name := "value", type := (.array .byte), accessFlags := 18, slot := 0, constantValue := 0 }, { name := "coder", type := .byte, accessFlags := 18, slot := 1, constantValue := 0 }, { name := "hash", type := .int, accessFlags := 2, slot := 2, constantValue := 0 }, { name := "hashIsZero", type := .boolean, accessFlags := 2, slot := 3, constantValue := 0 }, { name := "serialVersionUID", type := .long, accessFlags := 26, slot := 0, constantValue := 0 }, { name := "COMPACT_STRINGS", type := .boolean, accessFlags := 24, slot := 1, constantValue := 0 }, { name := "serialPersistentFields", type := (.array (.object "java/io/ObjectStreamField")), accessFlags := 26, slot := 2, constantValue := 0 }, { name := "REPL", type := .char, accessFlags := 26, slot := 3, constantValue := 0 }, { name := "CASE_INSENSITIVE_ORDER", type := (.object "java/util/Comparator"), accessFlags := 25, slot := 4, constantValue := 0 }, { name := "LATIN1", type := .byte, accessFlags := 24, slot := 5, constantValue := 0 }, { name := "UTF16", type := .byte, accessFlags := 24, slot := 6, constantValue := 0 }]
  methods := #[k7m0, k7m1, k7m2, k7m3, k7m4, k7m5, k7m6, k7m7, k7m8, k7m9, k7m10, k7m11, k7m12, k7m13, k7m14]
  instanceTypes := #[(.array .byte), .byte, .int, .boolean]
  staticTypes := #[.long, .boolean, (.array (.object "java/io/ObjectStreamField")), .char, (.object "java/util/Comparator"), .byte, .byte]
  resolved := Array.replicate 1451 none
  statics := some 0 }

def pool8 : Array CpInfo := pool [(6, .class_ 8), (1, u "java/lang/Object"), (0, u "<init>"), (0, u "()V"), (1, .class_ 14), (1, u "java/lang/StringUTF16"), (31, u "$assertionsDisabled"), (0, u "Z"), (13, u "HI_BYTE_SHIFT"), (0, u "I"), (2, u "LO_BYTE_SHIFT"), (49, .methodref 12 116), (0, .nameAndType 117 118), (0, u "compress"), (0, u "([CI[BII)I"), (3, u "([CII)[B"), (138, u "coderFromArrayLen"), (0, u "([BI)B"), (106, .class_ 371), (1, u "java/lang/StringUTF16$LinesSpliterator"), (58, u "MAX_LENGTH"), (196, .class_ 628), (0, u "java/lang/StringUTF16$CodePointsSpliterator"), (0, .class_ 630), (0, u "java/lang/StringUTF16$CharsSpliterator")] 4

def k8m0 : Method := { name := "<init>", desc := "()V", sig := { parameters := [], returnType := none }, accessFlags := 0, code := none }
def k8c1 : Code := { maxStack := 2, maxLocals := 2, code := jdk_52_method_15_code, exceptionTable := #[], attributes := #[] }
def k8m1 : Method := { name := "coderFromArrayLen", desc := "([BI)B", sig := { parameters := [(.array .byte), .int], returnType := some .byte }, accessFlags := 8, code := some k8c1 }
def k8c2 : Code := { maxStack := 5, maxLocals := 6, code := jdk_52_method_16_code, exceptionTable := #[], attributes := #[] }
def k8m2 : Method := { name := "compress", desc := "([CII)[B", sig := { parameters := [(.array .char), .int, .int], returnType := some (.array .byte) }, accessFlags := 9, code := some k8c2 }
def k8c3 : Code := { maxStack := 3, maxLocals := 7, code := jdk_52_method_21_code, exceptionTable := #[], attributes := #[] }
def k8m3 : Method := { name := "compress", desc := "([CI[BII)I", sig := { parameters := [(.array .char), .int, (.array .byte), .int, .int], returnType := some .int }, accessFlags := 9, code := some k8c3 }
/-- java/lang/StringUTF16 -/
def k8 : Class := { plain "java/lang/StringUTF16" (some 0) with
  accessFlags := 48
  interfaces := #[]
  cf := some (fileOf pool8 12 #[.nestMembers #[627, 629, 369]] #[{ accessFlags := 0, nameIndex := 9, descriptorIndex := 10, attributes := #[] }, { accessFlags := 8, nameIndex := 261, descriptorIndex := 262, attributes := #[] }, { accessFlags := 9, nameIndex := 117, descriptorIndex := 122, attributes := #[] }, { accessFlags := 9, nameIndex := 117, descriptorIndex := 118, attributes := #[] }] 48 6 #[] #[{ accessFlags := 26, nameIndex := 61, descriptorIndex := 62, attributes := #[] }, { accessFlags := 26, nameIndex := 65, descriptorIndex := 62, attributes := #[] }, { accessFlags := 24, nameIndex := 430, descriptorIndex := 62, attributes := #[] }, { accessFlags := 4120, nameIndex := 46, descriptorIndex := 47, attributes := #[] }])
  fields := #[{ name := "HI_BYTE_SHIFT", type := .int, accessFlags := 26, slot := 0, constantValue := 0 }, { name := "LO_BYTE_SHIFT", type := .int, accessFlags := 26, slot := 1, constantValue := 0 }, { name := "MAX_LENGTH", type := .int, accessFlags := 24, slot := 2, constantValue := 0 }, { name := "$assertionsDisabled", type := .boolean, accessFlags := 4120, slot := 3, constantValue := 0 }]
  methods := #[k8m0, k8m1, k8m2, k8m3]
  instanceTypes := #[]
  staticTypes := #[.int, .int, .int, .boolean]
  resolved := Array.replicate 635 none
  statics := none }

def pool9 : Array CpInfo := pool [(2, .class_ 4), (0, .nameAndType 5 6), (0, u "java/lang/Object"), (0, u "<init>"), (0, u "()V"), (0, .methodref 8 9), (0, .class_ 10), (0, .nameAndType 11 12), (0, u "java/lang/String"), (0, u "length"), (0, u "()I"), (0, .methodref 8 14), (0, .nameAndType 15 16), (0, u "charAt"), (0, u "(I)C"), (0, .methodref 18 19), (0, .class_ 20), (0, .nameAndType 21 22), (0, u "com/example/libidem/libidem/http/KeyHeader"), (0, u "isBlank"), (0, u "(C)Z"), (0, .methodref 8 24), (0, .nameAndType 25 26), (0, u "substring"), (0, u "(II)Ljava/lang/String;"), (0, .string 28), (0, u "\""), (0, .methodref 8 30), (0, .nameAndType 31 32), (0, u "startsWith"), (0, u "(Ljava/lang/String;)Z"), (0, .methodref 18 34), (0, .nameAndType 35 36), (0, u "unquoted"), (0, u "(Ljava/lang/String;)Ljava/lang/String;"), (0, .methodref 18 38), (0, .nameAndType 39 36), (0, u "bare"), (0, .class_ 41), (0, u "java/lang/StringBuilder"), (0, .methodref 40 3), (0, .methodref 18 44), (0, .nameAndType 45 22), (0, u "isEscaped"), (19, .methodref 40 66), (0, .nameAndType 67 68), (0, u "append"), (0, u "(C)Ljava/lang/StringBuilder;"), (2, .methodref 40 72), (0, .nameAndType 73 74), (0, u "toString"), (0, u "()Ljava/lang/String;"), (4, u "parse")] 3

def k9m0 : Method := { name := "<init>", desc := "()V", sig := { parameters := [], returnType := none }, accessFlags := 2, code := none }
def k9c1 : Code := { maxStack := 3, maxLocals := 5, code := prog_26_method_2_code, exceptionTable := #[], attributes := #[] }
def k9m1 : Method := { name := "parse", desc := "(Ljava/lang/String;)Ljava/lang/String;", sig := { parameters := [(.object "java/lang/String")], returnType := some (.object "java/lang/String") }, accessFlags := 8, code := some k9c1 }
def k9c2 : Code := { maxStack := 7, maxLocals := 4, code := prog_26_method_3_code, exceptionTable := #[], attributes := #[] }
def k9m2 : Method := { name := "unquoted", desc := "(Ljava/lang/String;)Ljava/lang/String;", sig := { parameters := [(.object "java/lang/String")], returnType := some (.object "java/lang/String") }, accessFlags := 10, code := some k9c2 }
def k9c3 : Code := { maxStack := 7, maxLocals := 3, code := prog_26_method_4_code, exceptionTable := #[], attributes := #[] }
def k9m3 : Method := { name := "bare", desc := "(Ljava/lang/String;)Ljava/lang/String;", sig := { parameters := [(.object "java/lang/String")], returnType := some (.object "java/lang/String") }, accessFlags := 10, code := some k9c3 }
def k9c4 : Code := { maxStack := 2, maxLocals := 1, code := prog_26_method_5_code, exceptionTable := #[], attributes := #[] }
def k9m4 : Method := { name := "isEscaped", desc := "(C)Z", sig := { parameters := [.char], returnType := some .boolean }, accessFlags := 10, code := some k9c4 }
def k9c5 : Code := { maxStack := 2, maxLocals := 1, code := prog_26_method_6_code, exceptionTable := #[], attributes := #[] }
def k9m5 : Method := { name := "isBlank", desc := "(C)Z", sig := { parameters := [.char], returnType := some .boolean }, accessFlags := 10, code := some k9c5 }
/-- com/example/libidem/libidem/http/KeyHeader -/
def k9 : Class := { plain "com/example/libidem/libidem/http/KeyHeader" (some 0) with
  accessFlags := 32
  interfaces := #[]
  cf := some (fileOf pool9 18 #[] #[{ accessFlags := 2, nameIndex := 5, descriptorIndex := 6, attributes := #[] }, { accessFlags := 8, nameIndex := 79, descriptorIndex := 36, attributes := #[] }, { accessFlags := 10, nameIndex := 35, descriptorIndex := 36, attributes := #[] }, { accessFlags := 10, nameIndex := 39, descriptorIndex := 36, attributes := #[] }, { accessFlags := 10, nameIndex := 45, descriptorIndex := 22, attributes := #[] }, { accessFlags := 10, nameIndex := 21, descriptorIndex := 22, attributes := #[] }] 32 2 #[] #[])
  fields := #[]
  methods := #[k9m0, k9m1, k9m2, k9m3, k9m4, k9m5]
  instanceTypes := #[]
  staticTypes := #[]
  resolved := Array.replicate 83 none
  statics := none }

def pool10 : Array CpInfo := pool [(1, .class_ 2), (0, u "java/lang/String"), (1, .class_ 6), (1, u "java/lang/Object"), (0, u "<init>"), (0, u "()V"), (0, .methodref 1 10), (0, .nameAndType 11 12), (0, u "checkIndex"), (0, u "(II)V"), (1, .class_ 16), (1, u "java/lang/StringLatin1"), (36, u "([BI)C"), (36, u "canEncode"), (14, u "(C)Z"), (6, .methodref 1 113), (0, .nameAndType 7 114), (0, u "([BB)V"), (6, u "$assertionsDisabled"), (0, u "Z"), (8, .class_ 133), (1, u "java/util/Arrays"), (17, .string 152), (0, u ""), (43, u "newString"), (0, u "([BII)Ljava/lang/String;"), (23, .class_ 223), (1, u "java/lang/StringLatin1$LinesSpliterator"), (8, .methodref 131 233), (0, .nameAndType 234 235), (0, u "copyOfRange"), (0, u "([BII)[B"), (16, u "charAt"), (137, .class_ 391), (0, u "java/lang/StringLatin1$CharsSpliterator")] 3

def k10m0 : Method := { name := "<init>", desc := "()V", sig := { parameters := [], returnType := none }, accessFlags := 0, code := none }
def k10c1 : Code := { maxStack := 2, maxLocals := 2, code := jdk_43_method_2_code, exceptionTable := #[], attributes := #[] }
def k10m1 : Method := { name := "charAt", desc := "([BI)C", sig := { parameters := [(.array .byte), .int], returnType := some .char }, accessFlags := 9, code := some k10c1 }
def k10c2 : Code := { maxStack := 2, maxLocals := 1, code := jdk_43_method_3_code, exceptionTable := #[], attributes := #[] }
def k10m2 : Method := { name := "canEncode", desc := "(C)Z", sig := { parameters := [.char], returnType := some .boolean }, accessFlags := 9, code := some k10c2 }
def k10c3 : Code := { maxStack := 6, maxLocals := 3, code := jdk_43_method_47_code, exceptionTable := #[], attributes := #[] }
def k10m3 : Method := { name := "newString", desc := "([BII)Ljava/lang/String;", sig := { parameters := [(.array .byte), .int, .int], returnType := some (.object "java/lang/String") }, accessFlags := 9, code := some k10c3 }
/-- java/lang/StringLatin1 -/
def k10 : Class := { plain "java/lang/StringLatin1" (some 0) with
  accessFlags := 48
  interfaces := #[]
  cf := some (fileOf pool10 14 #[.nestMembers #[390, 221]] #[{ accessFlags := 0, nameIndex := 7, descriptorIndex := 8, attributes := #[] }, { accessFlags := 9, nameIndex := 252, descriptorIndex := 53, attributes := #[] }, { accessFlags := 9, nameIndex := 90, descriptorIndex := 105, attributes := #[] }, { accessFlags := 9, nameIndex := 196, descriptorIndex := 197, attributes := #[] }] 48 4 #[] #[{ accessFlags := 4120, nameIndex := 121, descriptorIndex := 122, attributes := #[] }])
  fields := #[{ name := "$assertionsDisabled", type := .boolean, accessFlags := 4120, slot := 0, constantValue := 0 }]
  methods := #[k10m0, k10m1, k10m2, k10m3]
  instanceTypes := #[]
  staticTypes := #[.boolean]
  resolved := Array.replicate 395 none
  statics := none }

def pool11 : Array CpInfo := pool [(2, .class_ 4), (1, u "java/lang/Object"), (0, u "<init>"), (0, u "()V"), (17, .class_ 26), (1, u "jdk/internal/util/Preconditions"), (6, u "checkIndex"), (13, u "checkFromToIndex"), (7, .class_ 56), (0, u "jdk/internal/util/Preconditions$4"), (57, .class_ 115), (0, u "jdk/internal/util/Preconditions$1"), (7, u "SIOOBE_FORMATTER"), (0, u "Ljava/util/function/BiFunction;"), (0, .class_ 126), (0, u "jdk/internal/util/Preconditions$2"), (3, u "AIOOBE_FORMATTER"), (0, .class_ 132), (0, u "jdk/internal/util/Preconditions$3"), (3, u "IOOBE_FORMATTER"), (41, u "(IILjava/util/function/BiFunction;)I"), (4, u "(IIILjava/util/function/BiFunction;)I")] 10

def k11m0 : Method := { name := "<init>", desc := "()V", sig := { parameters := [], returnType := none }, accessFlags := 1, code := none }
def k11c1 : Code := { maxStack := 3, maxLocals := 3, code := jdk_41_method_11_code, exceptionTable := #[], attributes := #[] }
def k11m1 : Method := { name := "checkIndex", desc := "(IILjava/util/function/BiFunction;)I", sig := { parameters := [.int, .int, (.object "java/util/function/BiFunction")], returnType := some .int }, accessFlags := 9, code := some k11c1 }
def k11c2 : Code := { maxStack := 4, maxLocals := 4, code := jdk_41_method_12_code, exceptionTable := #[], attributes := #[] }
def k11m2 : Method := { name := "checkFromToIndex", desc := "(IIILjava/util/function/BiFunction;)I", sig := { parameters := [.int, .int, .int, (.object "java/util/function/BiFunction")], returnType := some .int }, accessFlags := 9, code := some k11c2 }
/-- jdk/internal/util/Preconditions -/
def k11 : Class := { plain "jdk/internal/util/Preconditions" (some 0) with
  accessFlags := 33
  interfaces := #[]
  cf := some (fileOf pool11 24 #[.nestMembers #[55, 131, 125, 114]] #[{ accessFlags := 1, nameIndex := 5, descriptorIndex := 6, attributes := #[] }, { accessFlags := 9, nameIndex := 33, descriptorIndex := 178, attributes := #[] }, { accessFlags := 9, nameIndex := 47, descriptorIndex := 183, attributes := #[] }] 33 2 #[] #[{ accessFlags := 25, nameIndex := 123, descriptorIndex := 124, attributes := #[] }, { accessFlags := 25, nameIndex := 130, descriptorIndex := 124, attributes := #[] }, { accessFlags := 25, nameIndex := 136, descriptorIndex := 124, attributes := #[] }])
  fields := #[{ name := "SIOOBE_FORMATTER", type := (.object "java/util/function/BiFunction"), accessFlags := 25, slot := 0, constantValue := 0 }, { name := "AIOOBE_FORMATTER", type := (.object "java/util/function/BiFunction"), accessFlags := 25, slot := 1, constantValue := 0 }, { name := "IOOBE_FORMATTER", type := (.object "java/util/function/BiFunction"), accessFlags := 25, slot := 2, constantValue := 0 }]
  methods := #[k11m0, k11m1, k11m2]
  instanceTypes := #[]
  staticTypes := #[(.object "java/util/function/BiFunction"), (.object "java/util/function/BiFunction"), (.object "java/util/function/BiFunction")]
  resolved := Array.replicate 194 none
  statics := some 1 }

def pool12 : Array CpInfo := pool [(2, .class_ 4), (1, u "java/lang/Object"), (0, u "<init>"), (0, u "()V"), (7, .class_ 16), (1, u "java/util/Arrays"), (57, .class_ 76), (1, u "java/util/Arrays$NaturalOrder"), (36, .class_ 115), (1, u "java/util/Arrays$LegacyMergeSort"), (1, u "Z"), (21, u "copyOfRange"), (10, .methodref 151 152), (0, .class_ 153), (0, .nameAndType 154 155), (0, u "java/lang/System"), (0, u "arraycopy"), (0, u "(Ljava/lang/Object;ILjava/lang/Object;II)V"), (148, .methodref 305 306), (0, .class_ 307), (0, .nameAndType 308 309), (0, u "java/lang/Math"), (0, u "min"), (0, u "(II)I"), (29, .methodref 14 340), (0, .nameAndType 341 342), (0, u "copyOfRangeByte"), (0, u "([BII)[B"), (0, .methodref 14 344), (0, .nameAndType 345 346), (0, u "checkLength"), (0, u "(II)V"), (28, .class_ 376), (0, u "java/util/Arrays$ArrayList"), (68, u "$assertionsDisabled"), (269, u "MIN_ARRAY_SORT_GRAN"), (0, u "I"), (2, u "INSERTIONSORT_THRESHOLD"), (255, .class_ 976), (0, u "java/util/Arrays$ArrayItr")] 52

def k12m0 : Method := { name := "<init>", desc := "()V", sig := { parameters := [], returnType := none }, accessFlags := 2, code := none }
def k12c1 : Code := { maxStack := 4, maxLocals := 2, code := jdk_65_method_131_code, exceptionTable := #[], attributes := #[] }
def k12m1 : Method := { name := "checkLength", desc := "(II)V", sig := { parameters := [.int, .int], returnType := none }, accessFlags := 10, code := some k12c1 }
def k12c2 : Code := { maxStack := 3, maxLocals := 3, code := jdk_65_method_132_code, exceptionTable := #[], attributes := #[] }
def k12m2 : Method := { name := "copyOfRange", desc := "([BII)[B", sig := { parameters := [(.array .byte), .int, .int], returnType := some (.array .byte) }, accessFlags := 9, code := some k12c2 }
def k12c3 : Code := { maxStack := 6, maxLocals := 5, code := jdk_65_method_133_code, exceptionTable := #[], attributes := #[] }
def k12m3 : Method := { name := "copyOfRangeByte", desc := "([BII)[B", sig := { parameters := [(.array .byte), .int, .int], returnType := some (.array .byte) }, accessFlags := 10, code := some k12c3 }
/-- java/util/Arrays -/
def k12 : Class := { plain "java/util/Arrays" (some 0) with
  accessFlags := 49
  interfaces := #[]
  cf := some (fileOf pool12 14 #[.nestMembers #[975, 375, 113, 74]] #[{ accessFlags := 2, nameIndex := 5, descriptorIndex := 6, attributes := #[] }, { accessFlags := 10, nameIndex := 345, descriptorIndex := 346, attributes := #[] }, { accessFlags := 9, nameIndex := 139, descriptorIndex := 342, attributes := #[] }, { accessFlags := 10, nameIndex := 341, descriptorIndex := 342, attributes := #[] }] 49 2 #[] #[{ accessFlags := 26, nameIndex := 715, descriptorIndex := 716, attributes := #[] }, { accessFlags := 26, nameIndex := 719, descriptorIndex := 716, attributes := #[] }, { accessFlags := 4120, nameIndex := 445, descriptorIndex := 117, attributes := #[] }])
  fields := #[{ name := "MIN_ARRAY_SORT_GRAN", type := .int, accessFlags := 26, slot := 0, constantValue := 0 }, { name := "INSERTIONSORT_THRESHOLD", type := .int, accessFlags := 26, slot := 1, constantValue := 0 }, { name := "$assertionsDisabled", type := .boolean, accessFlags := 4120, slot := 2, constantValue := 0 }]
  methods := #[k12m0, k12m1, k12m2, k12m3]
  instanceTypes := #[]
  staticTypes := #[.int, .int, .boolean]
  resolved := Array.replicate 1029 none
  statics := none }

def pool13 : Array CpInfo := pool [(1, .class_ 2), (0, u "java/lang/Math"), (1, .class_ 6), (1, u "java/lang/Object"), (0, u "<init>"), (0, u "()V"), (89, .class_ 100), (1, u "java/lang/Math$RandomNumberGeneratorHolder"), (71, u "negativeZeroFloatBits"), (0, u "J"), (2, u "negativeZeroDoubleBits"), (24, u "min"), (43, u "$assertionsDisabled"), (0, u "Z"), (88, u "(II)I"), (2, u "twoToTheDoubleScaleDown"), (0, u "D"), (4, u "twoToTheDoubleScaleUp"), (9, u "E"), (3, u "PI"), (2, u "TAU"), (2, u "DEGREES_TO_RADIANS"), (0, u "RADIANS_TO_DEGREES")] 94

def k13m0 : Method := { name := "<init>", desc := "()V", sig := { parameters := [], returnType := none }, accessFlags := 2, code := none }
def k13c1 : Code := { maxStack := 2, maxLocals := 2, code := jdk_29_method_69_code, exceptionTable := #[], attributes := #[] }
def k13m1 : Method := { name := "min", desc := "(II)I", sig := { parameters := [.int, .int], returnType := some .int }, accessFlags := 9, code := some k13c1 }
/-- java/lang/Math -/
def k13 : Class := { plain "java/lang/Math" (some 0) with
  accessFlags := 49
  interfaces := #[]
  cf := some (fileOf pool13 1 #[.nestMembers #[98]] #[{ accessFlags := 2, nameIndex := 7, descriptorIndex := 8, attributes := #[] }, { accessFlags := 9, nameIndex := 201, descriptorIndex := 335, attributes := #[] }] 49 4 #[] #[{ accessFlags := 25, nameIndex := 354, descriptorIndex := 339, attributes := #[] }, { accessFlags := 25, nameIndex := 358, descriptorIndex := 339, attributes := #[] }, { accessFlags := 25, nameIndex := 361, descriptorIndex := 339, attributes := #[] }, { accessFlags := 26, nameIndex := 364, descriptorIndex := 339, attributes := #[] }, { accessFlags := 26, nameIndex := 365, descriptorIndex := 339, attributes := #[] }, { accessFlags := 26, nameIndex := 172, descriptorIndex := 173, attributes := #[] }, { accessFlags := 26, nameIndex := 176, descriptorIndex := 173, attributes := #[] }, { accessFlags := 8, nameIndex := 344, descriptorIndex := 339, attributes := #[] }, { accessFlags := 8, nameIndex := 338, descriptorIndex := 339, attributes := #[] }, { accessFlags := 4120, nameIndex := 245, descriptorIndex := 246, attributes := #[] }])
  fields := #[{ name := "E", type := .double, accessFlags := 25, slot := 0, constantValue := 0 }, { name := "PI", type := .double, accessFlags := 25, slot := 1, constantValue := 0 }, { name := "TAU", type := .double, accessFlags := 25, slot := 2, constantValue := 0 }, { name := "DEGREES_TO_RADIANS", type := .double, accessFlags := 26, slot := 3, constantValue := 0 }, { name := "RADIANS_TO_DEGREES", type := .double, accessFlags := 26, slot := 4, constantValue := 0 }, { name := "negativeZeroFloatBits", type := .long, accessFlags := 26, slot := 5, constantValue := 0 }, { name := "negativeZeroDoubleBits", type := .long, accessFlags := 26, slot := 6, constantValue := 0 }, { name := "twoToTheDoubleScaleUp", type := .double, accessFlags := 8, slot := 7, constantValue := 0 }, { name := "twoToTheDoubleScaleDown", type := .double, accessFlags := 8, slot := 8, constantValue := 0 }, { name := "$assertionsDisabled", type := .boolean, accessFlags := 4120, slot := 9, constantValue := 0 }]
  methods := #[k13m0, k13m1]
  instanceTypes := #[]
  staticTypes := #[.double, .double, .double, .double, .double, .long, .long, .double, .double, .boolean]
  resolved := Array.replicate 460 none
  statics := none }

def pool14 : Array CpInfo := pool [(2, .class_ 4), (1, u "java/lang/Object"), (0, u "<init>"), (0, u "()V"), (1, .class_ 10), (1, u "java/lang/System"), (0, u "allowSecurityManager"), (0, u "I"), (16, u "cons"), (0, u "Ljava/io/Console;"), (77, .class_ 110), (1, u "java/lang/System$CallersHolder"), (43, u "initialErrStream"), (0, u "Ljava/io/PrintStream;"), (19, u "security"), (0, u "Ljava/lang/SecurityManager;"), (31, .class_ 209), (0, u "java/lang/System$1"), (7, u "props"), (0, u "Ljava/util/Properties;"), (2, u "lineSeparator"), (0, u "Ljava/lang/String;"), (96, .class_ 321), (1, u "java/lang/System$LoggerFinder"), (5, .class_ 328), (0, u "java/lang/System$Logger"), (67, u "err"), (2, u "out"), (91, u "notSupportedJnuEncoding"), (15, u "in"), (17, u "initialIn"), (0, u "Ljava/io/InputStream;"), (35, u "bootLayer"), (0, u "Ljava/lang/ModuleLayer;"), (99, .class_ 664), (0, u "java/lang/System$2"), (9, u "NEVER"), (2, u "MAYBE"), (49, u "arraycopy"), (0, u "(Ljava/lang/Object;ILjava/lang/Object;II)V"), (72, .class_ 802), (0, u "java/lang/System$Logger$Level")] 31

def k14m0 : Method := { name := "<init>", desc := "()V", sig := { parameters := [], returnType := none }, accessFlags := 2, code := none }
def k14m1 : Method := { name := "arraycopy", desc := "(Ljava/lang/Object;ILjava/lang/Object;II)V", sig := { parameters := [(.object "java/lang/Object"), .int, (.object "java/lang/Object"), .int, .int], returnType := none }, accessFlags := 265, code := none }
/-- java/lang/System -/
def k14 : Class := { plain "java/lang/System" (some 0) with
  accessFlags := 49
  interfaces := #[]
  cf := some (fileOf pool14 8 #[.nestMembers #[319, 327, 801, 108, 663, 208]] #[{ accessFlags := 2, nameIndex := 5, descriptorIndex := 6, attributes := #[] }, { accessFlags := 265, nameIndex := 727, descriptorIndex := 728, attributes := #[] }] 49 2 #[] #[{ accessFlags := 25, nameIndex := 507, descriptorIndex := 526, attributes := #[] }, { accessFlags := 25, nameIndex := 399, descriptorIndex := 155, attributes := #[] }, { accessFlags := 25, nameIndex := 396, descriptorIndex := 155, attributes := #[] }, { accessFlags := 10, nameIndex := 525, descriptorIndex := 526, attributes := #[] }, { accessFlags := 26, nameIndex := 674, descriptorIndex := 12, attributes := #[] }, { accessFlags := 26, nameIndex := 677, descriptorIndex := 12, attributes := #[] }, { accessFlags := 10, nameIndex := 11, descriptorIndex := 12, attributes := #[] }, { accessFlags := 74, nameIndex := 175, descriptorIndex := 176, attributes := #[] }, { accessFlags := 10, nameIndex := 491, descriptorIndex := 222, attributes := #[] }, { accessFlags := 74, nameIndex := 29, descriptorIndex := 30, attributes := #[] }, { accessFlags := 74, nameIndex := 154, descriptorIndex := 155, attributes := #[] }, { accessFlags := 10, nameIndex := 217, descriptorIndex := 218, attributes := #[] }, { accessFlags := 10, nameIndex := 221, descriptorIndex := 222, attributes := #[] }, { accessFlags := 8, nameIndex := 562, descriptorIndex := 563, attributes := #[] }])
  fields := #[{ name := "in", type := (.object "java/io/InputStream"), accessFlags := 25, slot := 0, constantValue := 0 }, { name := "out", type := (.object "java/io/PrintStream"), accessFlags := 25, slot := 1, constantValue := 0 }, { name := "err", type := (.object "java/io/PrintStream"), accessFlags := 25, slot := 2, constantValue := 0 }, { name := "initialIn", type := (.object "java/io/InputStream"), accessFlags := 10, slot := 3, constantValue := 0 }, { name := "NEVER", type := .int, accessFlags := 26, slot := 4, constantValue := 0 }, { name := "MAYBE", type := .int, accessFlags := 26, slot := 5, constantValue := 0 }, { name := "allowSecurityManager", type := .int, accessFlags := 10, slot := 6, constantValue := 0 }, { name := "security", type := (.object "java/lang/SecurityManager"), accessFlags := 74, slot := 7, constantValue := 0 }, { name := "notSupportedJnuEncoding", type := (.object "java/lang/String"), accessFlags := 10, slot := 8, constantValue := 0 }, { name := "cons", type := (.object "java/io/Console"), accessFlags := 74, slot := 9, constantValue := 0 }, { name := "initialErrStream", type := (.object "java/io/PrintStream"), accessFlags := 74, slot := 10, constantValue := 0 }, { name := "props", type := (.object "java/util/Properties"), accessFlags := 10, slot := 11, constantValue := 0 }, { name := "lineSeparator", type := (.object "java/lang/String"), accessFlags := 10, slot := 12, constantValue := 0 }, { name := "bootLayer", type := (.object "java/lang/ModuleLayer"), accessFlags := 8, slot := 13, constantValue := 0 }]
  methods := #[k14m0, k14m1]
  instanceTypes := #[]
  staticTypes := #[(.object "java/io/InputStream"), (.object "java/io/PrintStream"), (.object "java/io/PrintStream"), (.object "java/io/InputStream"), .int, .int, .int, (.object "java/lang/SecurityManager"), (.object "java/lang/String"), (.object "java/io/Console"), (.object "java/io/PrintStream"), (.object "java/util/Properties"), (.object "java/lang/String"), (.object "java/lang/ModuleLayer")]
  resolved := Array.replicate 834 none
  statics := none }

def pool15 : Array CpInfo := pool [(9, u "<init>"), (6, .class_ 18), (1, u "java/lang/Object"), (0, u "()V"), (1, .class_ 23), (1, u "jdk/internal/util/ArraysSupport"), (0, u "LOG2_ARRAY_LONG_INDEX_SCALE"), (0, u "I"), (2, u "U"), (0, u "Ljdk/internal/misc/Unsafe;"), (8, u "BIG_ENDIAN"), (0, u "Z"), (8, u "LOG2_BYTE_BIT_SIZE"), (4, u "LOG2_ARRAY_INT_INDEX_SCALE"), (54, u "JLA"), (0, u "Ljdk/internal/access/JavaLangAccess;"), (11, u "LOG2_ARRAY_BOOLEAN_INDEX_SCALE"), (9, u "LOG2_ARRAY_BYTE_INDEX_SCALE"), (5, u "LOG2_ARRAY_CHAR_INDEX_SCALE"), (5, u "LOG2_ARRAY_SHORT_INDEX_SCALE"), (5, u "mismatch"), (12, u "LOG2_ARRAY_FLOAT_INDEX_SCALE"), (24, u "LOG2_ARRAY_DOUBLE_INDEX_SCALE"), (89, u "T_BOOLEAN"), (2, u "T_CHAR"), (1, u "T_FLOAT"), (1, u "T_DOUBLE"), (1, u "T_BYTE"), (1, u "T_SHORT"), (1, u "T_INT"), (1, u "T_LONG"), (1, u "SOFT_MAX_ARRAY_LENGTH"), (42, u "([BI[BII)I")] 40

def k15m0 : Method := { name := "<init>", desc := "()V", sig := { parameters := [], returnType := none }, accessFlags := 2, code := none }
def k15c1 : Code := { maxStack := 8, maxLocals := 8, code := jdk_48_method_14_code, exceptionTable := #[], attributes := #[] }
def k15m1 : Method := { name := "mismatch", desc := "([BI[BII)I", sig := { parameters := [(.array .byte), .int, (.array .byte), .int, .int], returnType := some .int }, accessFlags := 9, code := some k15c1 }
/-- jdk/internal/util/ArraysSupport -/
def k15 : Class := { plain "jdk/internal/util/ArraysSupport" (some 0) with
  accessFlags := 33
  interfaces := #[]
  cf := some (fileOf pool15 21 #[] #[{ accessFlags := 2, nameIndex := 9, descriptorIndex := 19, attributes := #[] }, { accessFlags := 9, nameIndex := 149, descriptorIndex := 337, attributes := #[] }] 33 16 #[] #[{ accessFlags := 24, nameIndex := 28, descriptorIndex := 29, attributes := #[] }, { accessFlags := 26, nameIndex := 38, descriptorIndex := 39, attributes := #[] }, { accessFlags := 25, nameIndex := 121, descriptorIndex := 25, attributes := #[] }, { accessFlags := 25, nameIndex := 131, descriptorIndex := 25, attributes := #[] }, { accessFlags := 25, nameIndex := 137, descriptorIndex := 25, attributes := #[] }, { accessFlags := 25, nameIndex := 143, descriptorIndex := 25, attributes := #[] }, { accessFlags := 25, nameIndex := 53, descriptorIndex := 25, attributes := #[] }, { accessFlags := 25, nameIndex := 24, descriptorIndex := 25, attributes := #[] }, { accessFlags := 25, nameIndex := 162, descriptorIndex := 25, attributes := #[] }, { accessFlags := 25, nameIndex := 187, descriptorIndex := 25, attributes := #[] }, { accessFlags := 26, nameIndex := 48, descriptorIndex := 25, attributes := #[] }, { accessFlags := 25, nameIndex := 277, descriptorIndex := 25, attributes := #[] }, { accessFlags := 25, nameIndex := 280, descriptorIndex := 25, attributes := #[] }, { accessFlags := 25, nameIndex := 282, descriptorIndex := 25, attributes := #[] }, { accessFlags := 25, nameIndex := 284, descriptorIndex := 25, attributes := #[] }, { accessFlags := 25, nameIndex := 286, descriptorIndex := 25, attributes := #[] }, { accessFlags := 25, nameIndex := 288, descriptorIndex := 25, attributes := #[] }, { accessFlags := 25, nameIndex := 290, descriptorIndex := 25, attributes := #[] }, { accessFlags := 25, nameIndex := 292, descriptorIndex := 25, attributes := #[] }, { accessFlags := 26, nameIndex := 108, descriptorIndex := 109, attributes := #[] }, { accessFlags := 25, nameIndex := 294, descriptorIndex := 25, attributes := #[] }])
  fields := #[{ name := "U", type := (.object "jdk/internal/misc/Unsafe"), accessFlags := 24, slot := 0, constantValue := 0 }, { name := "BIG_ENDIAN", type := .boolean, accessFlags := 26, slot := 1, constantValue := 0 }, { name := "LOG2_ARRAY_BOOLEAN_INDEX_SCALE", type := .int, accessFlags := 25, slot := 2, constantValue := 0 }, { name := "LOG2_ARRAY_BYTE_INDEX_SCALE", type := .int, accessFlags := 25, slot := 3, constantValue := 0 }, { name := "LOG2_ARRAY_CHAR_INDEX_SCALE", type := .int, accessFlags := 25, slot := 4, constantValue := 0 }, { name := "LOG2_ARRAY_SHORT_INDEX_SCALE", type := .int, accessFlags := 25, slot := 5, constantValue := 0 }, { name := "LOG2_ARRAY_INT_INDEX_SCALE", type := .int, accessFlags := 25, slot := 6, constantValue := 0 }, { name := "LOG2_ARRAY_LONG_INDEX_SCALE", type := .int, accessFlags := 25, slot := 7, constantValue := 0 }, { name := "LOG2_ARRAY_FLOAT_INDEX_SCALE", type := .int, accessFlags := 25, slot := 8, constantValue := 0 }, { name := "LOG2_ARRAY_DOUBLE_INDEX_SCALE", type := .int, accessFlags := 25, slot := 9, constantValue := 0 }, { name := "LOG2_BYTE_BIT_SIZE", type := .int, accessFlags := 26, slot := 10, constantValue := 0 }, { name := "T_BOOLEAN", type := .int, accessFlags := 25, slot := 11, constantValue := 0 }, { name := "T_CHAR", type := .int, accessFlags := 25, slot := 12, constantValue := 0 }, { name := "T_FLOAT", type := .int, accessFlags := 25, slot := 13, constantValue := 0 }, { name := "T_DOUBLE", type := .int, accessFlags := 25, slot := 14, constantValue := 0 }, { name := "T_BYTE", type := .int, accessFlags := 25, slot := 15, constantValue := 0 }, { name := "T_SHORT", type := .int, accessFlags := 25, slot := 16, constantValue := 0 }, { name := "T_INT", type := .int, accessFlags := 25, slot := 17, constantValue := 0 }, { name := "T_LONG", type := .int, accessFlags := 25, slot := 18, constantValue := 0 }, { name := "JLA", type := (.object "jdk/internal/access/JavaLangAccess"), accessFlags := 26, slot := 19, constantValue := 0 }, { name := "SOFT_MAX_ARRAY_LENGTH", type := .int, accessFlags := 25, slot := 20, constantValue := 0 }]
  methods := #[k15m0, k15m1]
  instanceTypes := #[]
  staticTypes := #[(.object "jdk/internal/misc/Unsafe"), .boolean, .int, .int, .int, .int, .int, .int, .int, .int, .int, .int, .int, .int, .int, .int, .int, .int, .int, (.object "jdk/internal/access/JavaLangAccess"), .int]
  resolved := Array.replicate 378 none
  statics := none }

def pool16 : Array CpInfo := pool [(1, .class_ 2), (0, u "java/lang/Appendable"), (0, .class_ 4), (0, u "java/lang/Object")] 9

/-- java/lang/Appendable -/
def k16 : Class := { plain "java/lang/Appendable" (some 0) with
  accessFlags := 1537
  interfaces := #[]
  cf := some (fileOf pool16 1 #[] #[] 1537 3 #[] #[])
  fields := #[]
  methods := #[]
  instanceTypes := #[]
  staticTypes := #[]
  resolved := Array.replicate 14 none
  statics := none }

def pool17 : Array CpInfo := pool [(1, .class_ 2), (0, u "java/lang/String"), (0, .methodref 4 5), (0, .class_ 6), (0, .nameAndType 7 8), (0, u "java/lang/Object"), (0, u "<init>"), (0, u "()V"), (1, .class_ 12), (1, u "java/lang/AbstractStringBuilder"), (0, u "EMPTYVALUE"), (0, u "[B"), (0, .fieldref 10 16), (0, .nameAndType 17 14), (0, u "value"), (0, .fieldref 1 19), (0, .nameAndType 20 21), (0, u "COMPACT_STRINGS"), (0, u "Z"), (0, .fieldref 10 23), (0, .nameAndType 24 25), (0, u "coder"), (0, u "B"), (8, u "length"), (0, u "()I"), (9, u "append"), (2, .class_ 49), (0, u "java/lang/CharSequence"), (25, u "maybeLatin1"), (3, .fieldref 10 80), (0, .nameAndType 81 82), (0, u "count"), (0, u "I"), (0, .methodref 10 84), (0, .nameAndType 85 86), (0, u "isLatin1"), (0, u "()Z"), (1, .class_ 90), (1, u "java/lang/StringLatin1"), (9, .methodref 10 101), (0, .nameAndType 102 103), (0, u "ensureCapacityInternal"), (0, u "(I)V"), (87, .methodref 88 192), (0, .nameAndType 193 194), (0, u "canEncode"), (0, u "(C)Z"), (97, u "(C)Ljava/lang/AbstractStringBuilder;"), (110, u "()[B"), (40, .class_ 445), (0, u "java/lang/Appendable"), (106, u "getValue")] 56

def k17m0 : Method := { name := "<init>", desc := "()V", sig := { parameters := [], returnType := none }, accessFlags := 0, code := none }
def k17c1 : Code := { maxStack := 2, maxLocals := 2, code := jdk_68_method_2_code, exceptionTable := #[], attributes := #[] }
def k17m1 : Method := { name := "<init>", desc := "(I)V", sig := { parameters := [.int], returnType := none }, accessFlags := 0, code := some k17c1 }
def k17c2 : Code := { maxStack := 1, maxLocals := 1, code := jdk_68_method_6_code, exceptionTable := #[], attributes := #[] }
def k17m2 : Method := { name := "length", desc := "()I", sig := { parameters := [], returnType := some .int }, accessFlags := 1, code := some k17c2 }
def k17c3 : Code := { maxStack := 4, maxLocals := 3, code := jdk_68_method_9_code, exceptionTable := #[], attributes := #[] }
def k17m3 : Method := { name := "ensureCapacityInternal", desc := "(I)V", sig := { parameters := [.int], returnType := none }, accessFlags := 2, code := some k17c3 }
def k17c4 : Code := { maxStack := 5, maxLocals := 2, code := jdk_68_method_31_code, exceptionTable := #[], attributes := #[] }
def k17m4 : Method := { name := "append", desc := "(C)Ljava/lang/AbstractStringBuilder;", sig := { parameters := [.char], returnType := some (.object "java/lang/AbstractStringBuilder") }, accessFlags := 1, code := some k17c4 }
def k17c5 : Code := { maxStack := 1, maxLocals := 1, code := jdk_68_method_64_code, exceptionTable := #[], attributes := #[] }
def k17m5 : Method := { name := "getValue", desc := "()[B", sig := { parameters := [], returnType := some (.array .byte) }, accessFlags := 16, code := some k17c5 }
def k17c6 : Code := { maxStack := 1, maxLocals := 1, code := jdk_68_method_68_code, exceptionTable := #[], attributes := #[] }
def k17m6 : Method := { name := "isLatin1", desc := "()Z", sig := { parameters := [], returnType := some .boolean }, accessFlags := 16, code := some k17c6 }
/-- java/lang/AbstractStringBuilder -/
def k17 : Class := { plain "java/lang/AbstractStringBuilder" (some 0) with
  accessFlags := 1056
  interfaces := #[16, 4]
  cf := some (fileOf pool17 10 #[] #[{ accessFlags := 0, nameIndex := 7, descriptorIndex := 8, attributes := #[] }, { accessFlags := 0, nameIndex := 7, descriptorIndex := 103, attributes := #[] }, { accessFlags := 1, nameIndex := 34, descriptorIndex := 35, attributes := #[] }, { accessFlags := 2, nameIndex := 102, descriptorIndex := 103, attributes := #[] }, { accessFlags := 1, nameIndex := 45, descriptorIndex := 292, attributes := #[] }, { accessFlags := 16, nameIndex := 552, descriptorIndex := 403, attributes := #[] }, { accessFlags := 16, nameIndex := 85, descriptorIndex := 86, attributes := #[] }] 1056 4 #[444, 48] #[{ accessFlags := 0, nameIndex := 17, descriptorIndex := 14, attributes := #[] }, { accessFlags := 0, nameIndex := 24, descriptorIndex := 25, attributes := #[] }, { accessFlags := 0, nameIndex := 75, descriptorIndex := 21, attributes := #[] }, { accessFlags := 0, nameIndex := 81, descriptorIndex := 82, attributes := #[] }, { accessFlags := 26, nameIndex := 13, descriptorIndex := 14, attributes := #[] }])
  fields := #[{ name := "value", type := (.array .byte), accessFlags := 0, slot := 0, constantValue := 0 }, { name := "coder", type := .byte, accessFlags := 0, slot := 1, constantValue := 0 }, { name := "maybeLatin1", type := .boolean, accessFlags := 0, slot := 2, constantValue := 0 }, { name := "count", type := .int, accessFlags := 0, slot := 3, constantValue := 0 }, { name := "EMPTYVALUE", type := (.array .byte), accessFlags := 26, slot := 0, constantValue := 0 }]
  methods := #[k17m0, k17m1, k17m2, k17m3, k17m4, k17m5, k17m6]
  instanceTypes := #[(.array .byte), .byte, .boolean, .int]
  staticTypes := #[(.array .byte)]
  resolved := Array.replicate 609 none
  statics := none }

def pool18 : Array CpInfo := pool [(1, .methodref 2 3), (0, .class_ 4), (0, .nameAndType 5 6), (0, u "java/lang/AbstractStringBuilder"), (0, u "<init>"), (0, u "(I)V"), (11, .class_ 20), (1, u "java/lang/String"), (3, .class_ 26), (1, u "java/lang/StringBuilder"), (0, u "append"), (22, .methodref 2 51), (0, .nameAndType 27 52), (0, u "(C)Ljava/lang/AbstractStringBuilder;"), (84, .methodref 18 138), (0, .nameAndType 5 139), (0, u "(Ljava/lang/StringBuilder;)V"), (5, u "()V"), (10, u "()I"), (129, u "(C)Ljava/lang/StringBuilder;"), (56, .methodref 2 344), (0, .nameAndType 345 156), (0, u "length"), (3, .class_ 350), (0, u "java/lang/Appendable"), (0, .class_ 352), (0, u "java/io/Serializable"), (0, .class_ 354), (0, u "java/lang/Comparable"), (0, .class_ 356), (0, u "java/lang/CharSequence"), (0, u "serialVersionUID"), (0, u "J"), (40, u "toString"), (0, u "()Ljava/lang/String;")] 21

def k18c0 : Code := { maxStack := 2, maxLocals := 1, code := jdk_67_method_1_code, exceptionTable := #[], attributes := #[] }
def k18m0 : Method := { name := "<init>", desc := "()V", sig := { parameters := [], returnType := none }, accessFlags := 1, code := some k18c0 }
def k18c1 : Code := { maxStack := 2, maxLocals := 2, code := jdk_67_method_14_code, exceptionTable := #[], attributes := #[] }
def k18m1 : Method := { name := "append", desc := "(C)Ljava/lang/StringBuilder;", sig := { parameters := [.char], returnType := some (.object "java/lang/StringBuilder") }, accessFlags := 1, code := some k18c1 }
def k18c2 : Code := { maxStack := 3, maxLocals := 1, code := jdk_67_method_42_code, exceptionTable := #[], attributes := #[] }
def k18m2 : Method := { name := "toString", desc := "()Ljava/lang/String;", sig := { parameters := [], returnType := some (.object "java/lang/String") }, accessFlags := 1, code := some k18c2 }
def k18c3 : Code := { maxStack := 1, maxLocals := 1, code := jdk_67_method_93_code, exceptionTable := #[], attributes := #[] }
def k18m3 : Method := { name := "length", desc := "()I", sig := { parameters := [], returnType := some .int }, accessFlags := 4161, code := some k18c3 }
/-- java/lang/StringBuilder -/
def k18 : Class := { plain "java/lang/StringBuilder" (some 17) with
  accessFlags := 49
  interfaces := #[16, 2, 3, 4]
  cf := some (fileOf pool18 24 #[] #[{ accessFlags := 1, nameIndex := 5, descriptorIndex := 145, attributes := #[] }, { accessFlags := 1, nameIndex := 27, descriptorIndex := 286, attributes := #[] }, { accessFlags := 1, nameIndex := 399, descriptorIndex := 400, attributes := #[] }, { accessFlags := 4161, nameIndex := 345, descriptorIndex := 156, attributes := #[] }] 49 2 #[349, 351, 353, 355] #[{ accessFlags := 24, nameIndex := 357, descriptorIndex := 358, attributes := #[] }])
  fields := #[{ name := "serialVersionUID", type := .long, accessFlags := 24, slot := 0, constantValue := 0 }]
  methods := #[k18m0, k18m1, k18m2, k18m3]
  instanceTypes := #[(.array .byte), .byte, .boolean, .int]
  staticTypes := #[.long]
  resolved := Array.replicate 422 none
  statics := none }

def pool19 : Array CpInfo := pool [(1, u "java/lang/Cloneable"), (0, .class_ 1), (0, u "java/lang/Object"), (0, .class_ 3)] 3

/-- java/lang/Cloneable -/
def k19 : Class := { plain "java/lang/Cloneable" (some 0) with
  accessFlags := 1537
  interfaces := #[]
  cf := some (fileOf pool19 2 #[] #[] 1537 4 #[] #[])
  fields := #[]
  methods := #[]
  instanceTypes := #[]
  staticTypes := #[]
  resolved := Array.replicate 8 none
  statics := none }

/-- the primitive byte -/
def k20 : Class := { plain "byte" none with kind := .primitive 'B', accessFlags := 0x411 }
/-- [B -/
def k21 : Class := { plain "[B" (some 0) with kind := .array 20 .byte, interfaces := #[19, 2], accessFlags := 1041 }

/-- the primitive char -/
def k22 : Class := { plain "char" none with kind := .primitive 'C', accessFlags := 0x411 }
/-- [C -/
def k23 : Class := { plain "[C" (some 0) with kind := .array 22 .char, interfaces := #[19, 2], accessFlags := 1041 }

/-- the primitive int -/
def k24 : Class := { plain "int" none with kind := .primitive 'I', accessFlags := 0x411 }
/-- [I -/
def k25 : Class := { plain "[I" (some 0) with kind := .array 24 .int, interfaces := #[19, 2], accessFlags := 1041 }

def heap : Heap := #[{ cls := 7, slots := #[.long 0, .int 1, .null, .int 0, .null, .int 0, .int 0], vm := .statics 7 },
  { cls := 11, slots := #[.null, .null, .null], vm := .statics 11 }]
def classes : Array Class := #[k0, k1, k2, k3, k4, k5, k6, k7, k8, k9, k10, k11, k12, k13, k14, k15, k16, k17, k18, k19, k20, k21, k22, k23, k24, k25]
def interned : List (Array UInt16 × Addr) := []
def slotsUsed : Nat := 10
def theMethod : MethodId := ⟨1, 6⟩
def args0 : Array Value := #[.int 5, .int 6, .int 7, .int 2, .int 3]
def aboutOver (below : List Frame) : State where
  vm := { classes := classes, interned := interned.toArray }
  heap := heap
  slotsUsed := slotsUsed
  threads := #[{ frames := .invoking theMethod args0 :: below }]
def below0 : List Frame := [.native { method := ⟨0, 0⟩, args := #[] }]
def about1 : State := aboutOver below0
def p0 : Program := .bare "" "" ""
def e0 : Env := launch0.env 0 0 0
theorem w_frames : about1.frames = Frame.invoking theMethod args0 :: below0 := rfl
set_option maxRecDepth 65536 in
theorem w_args : argsFit about1.vm theMethod args0 = true := by decide +kernel
set_option maxRecDepth 65536 in
theorem w_heap : heapFits about1 = true := by decide +kernel
set_option maxRecDepth 65536 in
theorem w_runnable : about1.curStatus? = some .runnable := by decide +kernel
set_option maxRecDepth 65536 in
theorem w_alone : about1.alone = true := by decide +kernel
set_option maxRecDepth 65536 in
theorem w_named : about1.methodNamed? x = some theMethod := by decide +kernel
set_option maxRecDepth 65536 in
theorem w_hears : about1.hears theMethod below0 = true := by decide +kernel
set_option maxRecDepth 65536 in
theorem w_ripe : about1.ripe theMethod args0 below0 = true := by decide +kernel
theorem w_running : about1.status = .running := rfl
set_option maxRecDepth 65536 in
theorem w_room : about1.hasRoom e0.platform room_1 = true :=
  launch0.hasRoom_least _ room_1 (by decide +kernel) (by decide +kernel) (by decide +kernel) (by decide +kernel) (by decide +kernel) (by decide +kernel)
theorem allAtoms_all (ts : List Jvm.Cond) (a : Array Jvm.Value) (st : Jvm.State) : (allAtoms ts).before a st = ts.all (fun c => c.before a st) := by
  induction ts with
  | nil => rfl
  | cons c t ih =>
    show (Jvm.Cond.and c (allAtoms t)).before a st = _
    rw [Jvm.Cond.before_and, ih, List.all_cons]
def words1 : List Jvm.Cond := Jvm.Cond.code x code maxLocals ret :: tables_1
/-- a 'code' word, met by the world's own term for the bytes: nothing is compared byte by byte -/
theorem code_word {y : MethodName} {bytes : ByteArray} {mx : Nat} {rt : Option FieldType} {a : Array Value} {s : State} {m : MethodId} {meth : Method} {c : Code} (h1 : s.methodNamed? y = some m) (h2 : s.vm.method? m = some meth) (h3 : meth.code = some c) (h4 : c.code = bytes)
    (h5 : (c.maxLocals == mx && c.exceptionTable.isEmpty && decide (c.maxStack ≤ mostOperands) && decide (meth.sig.returnType = rt) && !meth.locks && decide (parseMethodDescriptor y.desc = some meth.sig)) = true) : (Jvm.Cond.code y bytes mx rt).before a s = true := by
  simp only [Bool.and_eq_true, beq_iff_eq, Bool.not_eq_true', decide_eq_true_eq] at h5
  obtain ⟨⟨⟨⟨⟨g1, g2⟩, g3⟩, g4⟩, g5⟩, g6⟩ := h5
  simp [Cond.before, Cond.holds, Cond.value, h1, h2, h3, h4, g1, g2, g3, g4, g5, g6]
def isCode : Jvm.Cond → Bool
  | .code _ _ _ _ => true
  | _ => false
theorem all_split {L : List Jvm.Cond} {P : Jvm.Cond → Bool} (h1 : L.all (fun c => isCode c || P c) = true) (h2 : ∀ c ∈ L.filter isCode, P c = true) : L.all P = true := by
  refine List.all_eq_true.mpr fun c hc => ?_
  have h := List.all_eq_true.mp h1 c hc
  rcases Bool.eq_false_or_eq_true (isCode c) with hi | hi
  · exact h2 c (List.mem_filter.mpr ⟨hc, hi⟩)
  · simpa [hi] using h
set_option maxRecDepth 65536 in
theorem w_c0 : (Jvm.Cond.code x code maxLocals ret).before args0 about1 = true := code_word (m := ⟨1, 6⟩) (meth := k1m6) (c := k1c6) (by decide +kernel) rfl rfl rfl (by decide +kernel)
set_option maxRecDepth 65536 in
theorem w_c1 : (Jvm.Cond.code ({ cls := "com/example/libidem/libidem/http/KeyHeaderParsePinLaw", name := "printable", desc := "(I)C" } : Jvm.MethodName) method_2_code (1 : Nat) (Option.some Jvm.ClassFile.FieldType.char)).before args0 about1 = true := code_word (m := ⟨1, 1⟩) (meth := k1m1) (c := k1c1) (by decide +kernel) rfl rfl rfl (by decide +kernel)
set_option maxRecDepth 65536 in
theorem w_c2 : (Jvm.Cond.code ({ cls := "com/example/libidem/libidem/http/KeyHeaderParsePinLaw", name := "bareOk", desc := "(C)Z" } : Jvm.MethodName) method_3_code (1 : Nat) (Option.some Jvm.ClassFile.FieldType.boolean)).before args0 about1 = true := code_word (m := ⟨1, 2⟩) (meth := k1m2) (c := k1c2) (by decide +kernel) rfl rfl rfl (by decide +kernel)
set_option maxRecDepth 65536 in
theorem w_c3 : (Jvm.Cond.code ({ cls := "com/example/libidem/libidem/http/KeyHeaderParsePinLaw", name := "esc", desc := "(C)Z" } : Jvm.MethodName) method_4_code (1 : Nat) (Option.some Jvm.ClassFile.FieldType.boolean)).before args0 about1 = true := code_word (m := ⟨1, 3⟩) (meth := k1m3) (c := k1c3) (by decide +kernel) rfl rfl rfl (by decide +kernel)
set_option maxRecDepth 65536 in
theorem w_c4 : (Jvm.Cond.code ({ cls := "com/example/libidem/libidem/http/KeyHeaderParsePinLaw", name := "blank", desc := "(II)C" } : Jvm.MethodName) method_5_code (2 : Nat) (Option.some Jvm.ClassFile.FieldType.char)).before args0 about1 = true := code_word (m := ⟨1, 4⟩) (meth := k1m4) (c := k1c4) (by decide +kernel) rfl rfl rfl (by decide +kernel)
set_option maxRecDepth 65536 in
theorem w_c5 : (Jvm.Cond.code ({ cls := "com/example/libidem/libidem/http/KeyHeaderParsePinLaw", name := "put", desc := "([CIZCZ)I" } : Jvm.MethodName) method_6_code (6 : Nat) (Option.some Jvm.ClassFile.FieldType.int)).before args0 about1 = true := code_word (m := ⟨1, 5⟩) (meth := k1m5) (c := k1c5) (by decide +kernel) rfl rfl rfl (by decide +kernel)
set_option maxRecDepth 65536 in
theorem w_c6 : (Jvm.Cond.code ({ cls := "java/lang/String", name := "<init>", desc := "([C)V" } : Jvm.MethodName) jdk_42_method_3_code (2 : Nat) (Option.none : Option Jvm.ClassFile.FieldType)).before args0 about1 = true := code_word (m := ⟨7, 1⟩) (meth := k7m1) (c := k7c1) (by decide +kernel) rfl rfl rfl (by decide +kernel)
set_option maxRecDepth 65536 in
theorem w_c7 : (Jvm.Cond.code ({ cls := "java/lang/String", name := "<init>", desc := "([CIILjava/lang/Void;)V" } : Jvm.MethodName) jdk_42_method_149_code (6 : Nat) (Option.none : Option Jvm.ClassFile.FieldType)).before args0 about1 = true := code_word (m := ⟨7, 8⟩) (meth := k7m8) (c := k7c8) (by decide +kernel) rfl rfl rfl (by decide +kernel)
set_option maxRecDepth 65536 in
theorem w_c8 : (Jvm.Cond.code ({ cls := "java/lang/Object", name := "<init>", desc := "()V" } : Jvm.MethodName) object_method_1_code (1 : Nat) (Option.none : Option Jvm.ClassFile.FieldType)).before args0 about1 = true := code_word (m := ⟨0, 0⟩) (meth := k0m0) (c := k0c0) (by decide +kernel) rfl rfl rfl (by decide +kernel)
set_option maxRecDepth 65536 in
theorem w_c9 : (Jvm.Cond.code ({ cls := "java/lang/StringUTF16", name := "compress", desc := "([CII)[B" } : Jvm.MethodName) jdk_52_method_16_code (6 : Nat) (Option.some (Jvm.ClassFile.FieldType.array Jvm.ClassFile.FieldType.byte))).before args0 about1 = true := code_word (m := ⟨8, 2⟩) (meth := k8m2) (c := k8c2) (by decide +kernel) rfl rfl rfl (by decide +kernel)
set_option maxRecDepth 65536 in
theorem w_c10 : (Jvm.Cond.code ({ cls := "java/lang/StringUTF16", name := "compress", desc := "([CI[BII)I" } : Jvm.MethodName) jdk_52_method_21_code (7 : Nat) (Option.some Jvm.ClassFile.FieldType.int)).before args0 about1 = true := code_word (m := ⟨8, 3⟩) (meth := k8m3) (c := k8c3) (by decide +kernel) rfl rfl rfl (by decide +kernel)
set_option maxRecDepth 65536 in
theorem w_c11 : (Jvm.Cond.code ({ cls := "java/lang/StringUTF16", name := "coderFromArrayLen", desc := "([BI)B" } : Jvm.MethodName) jdk_52_method_15_code (2 : Nat) (Option.some Jvm.ClassFile.FieldType.byte)).before args0 about1 = true := code_word (m := ⟨8, 1⟩) (meth := k8m1) (c := k8c1) (by decide +kernel) rfl rfl rfl (by decide +kernel)
set_option maxRecDepth 65536 in
theorem w_c12 : (Jvm.Cond.code ({ cls := "com/example/libidem/libidem/http/KeyHeader", name := "parse", desc := "(Ljava/lang/String;)Ljava/lang/String;" } : Jvm.MethodName) prog_26_method_2_code (5 : Nat) (Option.some (Jvm.ClassFile.FieldType.object "java/lang/String"))).before args0 about1 = true := code_word (m := ⟨9, 1⟩) (meth := k9m1) (c := k9c1) (by decide +kernel) rfl rfl rfl (by decide +kernel)
set_option maxRecDepth 65536 in
theorem w_c13 : (Jvm.Cond.code ({ cls := "java/lang/String", name := "length", desc := "()I" } : Jvm.MethodName) jdk_42_method_54_code (1 : Nat) (Option.some Jvm.ClassFile.FieldType.int)).before args0 about1 = true := code_word (m := ⟨7, 3⟩) (meth := k7m3) (c := k7c3) (by decide +kernel) rfl rfl rfl (by decide +kernel)
set_option maxRecDepth 65536 in
theorem w_c14 : (Jvm.Cond.code ({ cls := "java/lang/String", name := "coder", desc := "()B" } : Jvm.MethodName) jdk_42_method_152_code (1 : Nat) (Option.some Jvm.ClassFile.FieldType.byte)).before args0 about1 = true := code_word (m := ⟨7, 11⟩) (meth := k7m11) (c := k7c11) (by decide +kernel) rfl rfl rfl (by decide +kernel)
set_option maxRecDepth 65536 in
theorem w_c15 : (Jvm.Cond.code ({ cls := "java/lang/String", name := "charAt", desc := "(I)C" } : Jvm.MethodName) jdk_42_method_56_code (2 : Nat) (Option.some Jvm.ClassFile.FieldType.char)).before args0 about1 = true := code_word (m := ⟨7, 4⟩) (meth := k7m4) (c := k7c4) (by decide +kernel) rfl rfl rfl (by decide +kernel)
set_option maxRecDepth 65536 in
theorem w_c16 : (Jvm.Cond.code ({ cls := "java/lang/String", name := "isLatin1", desc := "()Z" } : Jvm.MethodName) jdk_42_method_154_code (1 : Nat) (Option.some Jvm.ClassFile.FieldType.boolean)).before args0 about1 = true := code_word (m := ⟨7, 12⟩) (meth := k7m12) (c := k7c12) (by decide +kernel) rfl rfl rfl (by decide +kernel)
set_option maxRecDepth 65536 in
theorem w_c17 : (Jvm.Cond.code ({ cls := "java/lang/StringLatin1", name := "charAt", desc := "([BI)C" } : Jvm.MethodName) jdk_43_method_2_code (2 : Nat) (Option.some Jvm.ClassFile.FieldType.char)).before args0 about1 = true := code_word (m := ⟨10, 1⟩) (meth := k10m1) (c := k10c1) (by decide +kernel) rfl rfl rfl (by decide +kernel)
set_option maxRecDepth 65536 in
theorem w_c18 : (Jvm.Cond.code ({ cls := "java/lang/String", name := "checkIndex", desc := "(II)V" } : Jvm.MethodName) jdk_42_method_155_code (2 : Nat) (Option.none : Option Jvm.ClassFile.FieldType)).before args0 about1 = true := code_word (m := ⟨7, 13⟩) (meth := k7m13) (c := k7c13) (by decide +kernel) rfl rfl rfl (by decide +kernel)
set_option maxRecDepth 65536 in
theorem w_c19 : (Jvm.Cond.code ({ cls := "jdk/internal/util/Preconditions", name := "checkIndex", desc := "(IILjava/util/function/BiFunction;)I" } : Jvm.MethodName) jdk_41_method_11_code (3 : Nat) (Option.some Jvm.ClassFile.FieldType.int)).before args0 about1 = true := code_word (m := ⟨11, 1⟩) (meth := k11m1) (c := k11c1) (by decide +kernel) rfl rfl rfl (by decide +kernel)
set_option maxRecDepth 65536 in
theorem w_c20 : (Jvm.Cond.code ({ cls := "com/example/libidem/libidem/http/KeyHeader", name := "isBlank", desc := "(C)Z" } : Jvm.MethodName) prog_26_method_6_code (1 : Nat) (Option.some Jvm.ClassFile.FieldType.boolean)).before args0 about1 = true := code_word (m := ⟨9, 5⟩) (meth := k9m5) (c := k9c5) (by decide +kernel) rfl rfl rfl (by decide +kernel)
set_option maxRecDepth 65536 in
theorem w_c21 : (Jvm.Cond.code ({ cls := "java/lang/String", name := "substring", desc := "(II)Ljava/lang/String;" } : Jvm.MethodName) jdk_42_method_92_code (5 : Nat) (Option.some (Jvm.ClassFile.FieldType.object "java/lang/String"))).before args0 about1 = true := code_word (m := ⟨7, 7⟩) (meth := k7m7) (c := k7c7) (by decide +kernel) rfl rfl rfl (by decide +kernel)
set_option maxRecDepth 65536 in
theorem w_c22 : (Jvm.Cond.code ({ cls := "java/lang/String", name := "checkBoundsBeginEnd", desc := "(III)V" } : Jvm.MethodName) jdk_42_method_158_code (3 : Nat) (Option.none : Option Jvm.ClassFile.FieldType)).before args0 about1 = true := code_word (m := ⟨7, 14⟩) (meth := k7m14) (c := k7c14) (by decide +kernel) rfl rfl rfl (by decide +kernel)
set_option maxRecDepth 65536 in
theorem w_c23 : (Jvm.Cond.code ({ cls := "jdk/internal/util/Preconditions", name := "checkFromToIndex", desc := "(IIILjava/util/function/BiFunction;)I" } : Jvm.MethodName) jdk_41_method_12_code (4 : Nat) (Option.some Jvm.ClassFile.FieldType.int)).before args0 about1 = true := code_word (m := ⟨11, 2⟩) (meth := k11m2) (c := k11c2) (by decide +kernel) rfl rfl rfl (by decide +kernel)
set_option maxRecDepth 65536 in
theorem w_c24 : (Jvm.Cond.code ({ cls := "java/lang/StringLatin1", name := "newString", desc := "([BII)Ljava/lang/String;" } : Jvm.MethodName) jdk_43_method_47_code (3 : Nat) (Option.some (Jvm.ClassFile.FieldType.object "java/lang/String"))).before args0 about1 = true := code_word (m := ⟨10, 3⟩) (meth := k10m3) (c := k10c3) (by decide +kernel) rfl rfl rfl (by decide +kernel)
set_option maxRecDepth 65536 in
theorem w_c25 : (Jvm.Cond.code ({ cls := "java/util/Arrays", name := "copyOfRange", desc := "([BII)[B" } : Jvm.MethodName) jdk_65_method_132_code (3 : Nat) (Option.some (Jvm.ClassFile.FieldType.array Jvm.ClassFile.FieldType.byte))).before args0 about1 = true := code_word (m := ⟨12, 2⟩) (meth := k12m2) (c := k12c2) (by decide +kernel) rfl rfl rfl (by decide +kernel)
set_option maxRecDepth 65536 in
theorem w_c26 : (Jvm.Cond.code ({ cls := "java/util/Arrays", name := "copyOfRangeByte", desc := "([BII)[B" } : Jvm.MethodName) jdk_65_method_133_code (5 : Nat) (Option.some (Jvm.ClassFile.FieldType.array Jvm.ClassFile.FieldType.byte))).before args0 about1 = true := code_word (m := ⟨12, 3⟩) (meth := k12m3) (c := k12c3) (by decide +kernel) rfl rfl rfl (by decide +kernel)
set_option maxRecDepth 65536 in
theorem w_c27 : (Jvm.Cond.code ({ cls := "java/util/Arrays", name := "checkLength", desc := "(II)V" } : Jvm.MethodName) jdk_65_method_131_code (2 : Nat) (Option.none : Option Jvm.ClassFile.FieldType)).before args0 about1 = true := code_word (m := ⟨12, 1⟩) (meth := k12m1) (c := k12c1) (by decide +kernel) rfl rfl rfl (by decide +kernel)
set_option maxRecDepth 65536 in
theorem w_c28 : (Jvm.Cond.code ({ cls := "java/lang/Math", name := "min", desc := "(II)I" } : Jvm.MethodName) jdk_29_method_69_code (2 : Nat) (Option.some Jvm.ClassFile.FieldType.int)).before args0 about1 = true := code_word (m := ⟨13, 1⟩) (meth := k13m1) (c := k13c1) (by decide +kernel) rfl rfl rfl (by decide +kernel)
set_option maxRecDepth 65536 in
theorem w_c29 : (Jvm.Cond.code ({ cls := "java/lang/String", name := "<init>", desc := "([BB)V" } : Jvm.MethodName) jdk_42_method_151_code (3 : Nat) (Option.none : Option Jvm.ClassFile.FieldType)).before args0 about1 = true := code_word (m := ⟨7, 10⟩) (meth := k7m10) (c := k7c10) (by decide +kernel) rfl rfl rfl (by decide +kernel)
set_option maxRecDepth 65536 in
theorem w_c30 : (Jvm.Cond.code ({ cls := "java/lang/String", name := "startsWith", desc := "(Ljava/lang/String;)Z" } : Jvm.MethodName) jdk_42_method_76_code (2 : Nat) (Option.some Jvm.ClassFile.FieldType.boolean)).before args0 about1 = true := code_word (m := ⟨7, 6⟩) (meth := k7m6) (c := k7c6) (by decide +kernel) rfl rfl rfl (by decide +kernel)
set_option maxRecDepth 65536 in
theorem w_c31 : (Jvm.Cond.code ({ cls := "java/lang/String", name := "startsWith", desc := "(Ljava/lang/String;I)Z" } : Jvm.MethodName) jdk_42_method_75_code (8 : Nat) (Option.some Jvm.ClassFile.FieldType.boolean)).before args0 about1 = true := code_word (m := ⟨7, 5⟩) (meth := k7m5) (c := k7c5) (by decide +kernel) rfl rfl rfl (by decide +kernel)
set_option maxRecDepth 65536 in
theorem w_c32 : (Jvm.Cond.code ({ cls := "jdk/internal/util/ArraysSupport", name := "mismatch", desc := "([BI[BII)I" } : Jvm.MethodName) jdk_48_method_14_code (8 : Nat) (Option.some Jvm.ClassFile.FieldType.int)).before args0 about1 = true := code_word (m := ⟨15, 1⟩) (meth := k15m1) (c := k15c1) (by decide +kernel) rfl rfl rfl (by decide +kernel)
set_option maxRecDepth 65536 in
theorem w_c33 : (Jvm.Cond.code ({ cls := "com/example/libidem/libidem/http/KeyHeader", name := "unquoted", desc := "(Ljava/lang/String;)Ljava/lang/String;" } : Jvm.MethodName) prog_26_method_3_code (4 : Nat) (Option.some (Jvm.ClassFile.FieldType.object "java/lang/String"))).before args0 about1 = true := code_word (m := ⟨9, 2⟩) (meth := k9m2) (c := k9c2) (by decide +kernel) rfl rfl rfl (by decide +kernel)
set_option maxRecDepth 65536 in
theorem w_c34 : (Jvm.Cond.code ({ cls := "java/lang/StringBuilder", name := "<init>", desc := "()V" } : Jvm.MethodName) jdk_67_method_1_code (1 : Nat) (Option.none : Option Jvm.ClassFile.FieldType)).before args0 about1 = true := code_word (m := ⟨18, 0⟩) (meth := k18m0) (c := k18c0) (by decide +kernel) rfl rfl rfl (by decide +kernel)
set_option maxRecDepth 65536 in
theorem w_c35 : (Jvm.Cond.code ({ cls := "java/lang/AbstractStringBuilder", name := "<init>", desc := "(I)V" } : Jvm.MethodName) jdk_68_method_2_code (2 : Nat) (Option.none : Option Jvm.ClassFile.FieldType)).before args0 about1 = true := code_word (m := ⟨17, 1⟩) (meth := k17m1) (c := k17c1) (by decide +kernel) rfl rfl rfl (by decide +kernel)
set_option maxRecDepth 65536 in
theorem w_c36 : (Jvm.Cond.code ({ cls := "java/lang/StringBuilder", name := "append", desc := "(C)Ljava/lang/StringBuilder;" } : Jvm.MethodName) jdk_67_method_14_code (2 : Nat) (Option.some (Jvm.ClassFile.FieldType.object "java/lang/StringBuilder"))).before args0 about1 = true := code_word (m := ⟨18, 1⟩) (meth := k18m1) (c := k18c1) (by decide +kernel) rfl rfl rfl (by decide +kernel)
set_option maxRecDepth 65536 in
theorem w_c37 : (Jvm.Cond.code ({ cls := "java/lang/AbstractStringBuilder", name := "append", desc := "(C)Ljava/lang/AbstractStringBuilder;" } : Jvm.MethodName) jdk_68_method_31_code (2 : Nat) (Option.some (Jvm.ClassFile.FieldType.object "java/lang/AbstractStringBuilder"))).before args0 about1 = true := code_word (m := ⟨17, 4⟩) (meth := k17m4) (c := k17c4) (by decide +kernel) rfl rfl rfl (by decide +kernel)
set_option maxRecDepth 65536 in
theorem w_c38 : (Jvm.Cond.code ({ cls := "java/lang/AbstractStringBuilder", name := "ensureCapacityInternal", desc := "(I)V" } : Jvm.MethodName) jdk_68_method_9_code (3 : Nat) (Option.none : Option Jvm.ClassFile.FieldType)).before args0 about1 = true := code_word (m := ⟨17, 3⟩) (meth := k17m3) (c := k17c3) (by decide +kernel) rfl rfl rfl (by decide +kernel)
set_option maxRecDepth 65536 in
theorem w_c39 : (Jvm.Cond.code ({ cls := "java/lang/AbstractStringBuilder", name := "isLatin1", desc := "()Z" } : Jvm.MethodName) jdk_68_method_68_code (1 : Nat) (Option.some Jvm.ClassFile.FieldType.boolean)).before args0 about1 = true := code_word (m := ⟨17, 6⟩) (meth := k17m6) (c := k17c6) (by decide +kernel) rfl rfl rfl (by decide +kernel)
set_option maxRecDepth 65536 in
theorem w_c40 : (Jvm.Cond.code ({ cls := "java/lang/StringLatin1", name := "canEncode", desc := "(C)Z" } : Jvm.MethodName) jdk_43_method_3_code (1 : Nat) (Option.some Jvm.ClassFile.FieldType.boolean)).before args0 about1 = true := code_word (m := ⟨10, 2⟩) (meth := k10m2) (c := k10c2) (by decide +kernel) rfl rfl rfl (by decide +kernel)
set_option maxRecDepth 65536 in
theorem w_c41 : (Jvm.Cond.code ({ cls := "java/lang/StringBuilder", name := "toString", desc := "()Ljava/lang/String;" } : Jvm.MethodName) jdk_67_method_42_code (1 : Nat) (Option.some (Jvm.ClassFile.FieldType.object "java/lang/String"))).before args0 about1 = true := code_word (m := ⟨18, 2⟩) (meth := k18m2) (c := k18c2) (by decide +kernel) rfl rfl rfl (by decide +kernel)
set_option maxRecDepth 65536 in
theorem w_c42 : (Jvm.Cond.code ({ cls := "java/lang/String", name := "<init>", desc := "(Ljava/lang/StringBuilder;)V" } : Jvm.MethodName) jdk_42_method_53_code (2 : Nat) (Option.none : Option Jvm.ClassFile.FieldType)).before args0 about1 = true := code_word (m := ⟨7, 2⟩) (meth := k7m2) (c := k7c2) (by decide +kernel) rfl rfl rfl (by decide +kernel)
set_option maxRecDepth 65536 in
theorem w_c43 : (Jvm.Cond.code ({ cls := "java/lang/String", name := "<init>", desc := "(Ljava/lang/AbstractStringBuilder;Ljava/lang/Void;)V" } : Jvm.MethodName) jdk_42_method_150_code (5 : Nat) (Option.none : Option Jvm.ClassFile.FieldType)).before args0 about1 = true := code_word (m := ⟨7, 9⟩) (meth := k7m9) (c := k7c9) (by decide +kernel) rfl rfl rfl (by decide +kernel)
set_option maxRecDepth 65536 in
theorem w_c44 : (Jvm.Cond.code ({ cls := "java/lang/AbstractStringBuilder", name := "getValue", desc := "()[B" } : Jvm.MethodName) jdk_68_method_64_code (1 : Nat) (Option.some (Jvm.ClassFile.FieldType.array Jvm.ClassFile.FieldType.byte))).before args0 about1 = true := code_word (m := ⟨17, 5⟩) (meth := k17m5) (c := k17c5) (by decide +kernel) rfl rfl rfl (by decide +kernel)
set_option maxRecDepth 65536 in
theorem w_c45 : (Jvm.Cond.code ({ cls := "java/lang/StringBuilder", name := "length", desc := "()I" } : Jvm.MethodName) jdk_67_method_93_code (1 : Nat) (Option.some Jvm.ClassFile.FieldType.int)).before args0 about1 = true := code_word (m := ⟨18, 3⟩) (meth := k18m3) (c := k18c3) (by decide +kernel) rfl rfl rfl (by decide +kernel)
set_option maxRecDepth 65536 in
theorem w_c46 : (Jvm.Cond.code ({ cls := "java/lang/AbstractStringBuilder", name := "length", desc := "()I" } : Jvm.MethodName) jdk_68_method_6_code (1 : Nat) (Option.some Jvm.ClassFile.FieldType.int)).before args0 about1 = true := code_word (m := ⟨17, 2⟩) (meth := k17m2) (c := k17c2) (by decide +kernel) rfl rfl rfl (by decide +kernel)
set_option maxRecDepth 65536 in
theorem w_c47 : (Jvm.Cond.code ({ cls := "com/example/libidem/libidem/http/KeyHeader", name := "bare", desc := "(Ljava/lang/String;)Ljava/lang/String;" } : Jvm.MethodName) prog_26_method_4_code (3 : Nat) (Option.some (Jvm.ClassFile.FieldType.object "java/lang/String"))).before args0 about1 = true := code_word (m := ⟨9, 3⟩) (meth := k9m3) (c := k9c3) (by decide +kernel) rfl rfl rfl (by decide +kernel)
set_option maxRecDepth 65536 in
theorem w_c48 : (Jvm.Cond.code ({ cls := "com/example/libidem/libidem/http/KeyHeader", name := "isEscaped", desc := "(C)Z" } : Jvm.MethodName) prog_26_method_5_code (1 : Nat) (Option.some Jvm.ClassFile.FieldType.boolean)).before args0 about1 = true := code_word (m := ⟨9, 4⟩) (meth := k9m4) (c := k9c4) (by decide +kernel) rfl rfl rfl (by decide +kernel)
def codes1 : List Jvm.Cond := [Jvm.Cond.code x code maxLocals ret, Jvm.Cond.code ({ cls := "com/example/libidem/libidem/http/KeyHeaderParsePinLaw", name := "printable", desc := "(I)C" } : Jvm.MethodName) method_2_code (1 : Nat) (Option.some Jvm.ClassFile.FieldType.char), Jvm.Cond.code ({ cls := "com/example/libidem/libidem/http/KeyHeaderParsePinLaw", name := "bareOk", desc := "(C)Z" } : Jvm.MethodName) method_3_code (1 : Nat) (Option.some Jvm.ClassFile.FieldType.boolean), Jvm.Cond.code ({ cls := "com/example/libidem/libidem/http/KeyHeaderParsePinLaw", name := "esc", desc := "(C)Z" } : Jvm.MethodName) method_4_code (1 : Nat) (Option.some Jvm.ClassFile.FieldType.boolean), Jvm.Cond.code ({ cls := "com/example/libidem/libidem/http/KeyHeaderParsePinLaw", name := "blank", desc := "(II)C" } : Jvm.MethodName) method_5_code (2 : Nat) (Option.some Jvm.ClassFile.FieldType.char), Jvm.Cond.code ({ cls := "com/example/libidem/libidem/http/KeyHeaderParsePinLaw", name := "put", desc := "([CIZCZ)I" } : Jvm.MethodName) method_6_code (6 : Nat) (Option.some Jvm.ClassFile.FieldType.int), Jvm.Cond.code ({ cls := "java/lang/String", name := "<init>", desc := "([C)V" } : Jvm.MethodName) jdk_42_method_3_code (2 : Nat) (Option.none : Option Jvm.ClassFile.FieldType), Jvm.Cond.code ({ cls := "java/lang/String", name := "<init>", desc := "([CIILjava/lang/Void;)V" } : Jvm.MethodName) jdk_42_method_149_code (6 : Nat) (Option.none : Option Jvm.ClassFile.FieldType), Jvm.Cond.code ({ cls := "java/lang/Object", name := "<init>", desc := "()V" } : Jvm.MethodName) object_method_1_code (1 : Nat) (Option.none : Option Jvm.ClassFile.FieldType), Jvm.Cond.code ({ cls := "java/lang/StringUTF16", name := "compress", desc := "([CII)[B" } : Jvm.MethodName) jdk_52_method_16_code (6 : Nat) (Option.some (Jvm.ClassFile.FieldType.array Jvm.ClassFile.FieldType.byte)), Jvm.Cond.code ({ cls := "java/lang/StringUTF16", name := "compress", desc := "([CI[BII)I" } : Jvm.MethodName) jdk_52_method_21_code (7 : Nat) (Option.some Jvm.ClassFile.FieldType.int), Jvm.Cond.code ({ cls := "java/lang/StringUTF16", name := "coderFromArrayLen", desc := "([BI)B" } : Jvm.MethodName) jdk_52_method_15_code (2 : Nat) (Option.some Jvm.ClassFile.FieldType.byte), Jvm.Cond.code ({ cls := "com/example/libidem/libidem/http/KeyHeader", name := "parse", desc := "(Ljava/lang/String;)Ljava/lang/String;" } : Jvm.MethodName) prog_26_method_2_code (5 : Nat) (Option.some (Jvm.ClassFile.FieldType.object "java/lang/String")), Jvm.Cond.code ({ cls := "java/lang/String", name := "length", desc := "()I" } : Jvm.MethodName) jdk_42_method_54_code (1 : Nat) (Option.some Jvm.ClassFile.FieldType.int), Jvm.Cond.code ({ cls := "java/lang/String", name := "coder", desc := "()B" } : Jvm.MethodName) jdk_42_method_152_code (1 : Nat) (Option.some Jvm.ClassFile.FieldType.byte), Jvm.Cond.code ({ cls := "java/lang/String", name := "charAt", desc := "(I)C" } : Jvm.MethodName) jdk_42_method_56_code (2 : Nat) (Option.some Jvm.ClassFile.FieldType.char), Jvm.Cond.code ({ cls := "java/lang/String", name := "isLatin1", desc := "()Z" } : Jvm.MethodName) jdk_42_method_154_code (1 : Nat) (Option.some Jvm.ClassFile.FieldType.boolean), Jvm.Cond.code ({ cls := "java/lang/StringLatin1", name := "charAt", desc := "([BI)C" } : Jvm.MethodName) jdk_43_method_2_code (2 : Nat) (Option.some Jvm.ClassFile.FieldType.char), Jvm.Cond.code ({ cls := "java/lang/String", name := "checkIndex", desc := "(II)V" } : Jvm.MethodName) jdk_42_method_155_code (2 : Nat) (Option.none : Option Jvm.ClassFile.FieldType), Jvm.Cond.code ({ cls := "jdk/internal/util/Preconditions", name := "checkIndex", desc := "(IILjava/util/function/BiFunction;)I" } : Jvm.MethodName) jdk_41_method_11_code (3 : Nat) (Option.some Jvm.ClassFile.FieldType.int), Jvm.Cond.code ({ cls := "com/example/libidem/libidem/http/KeyHeader", name := "isBlank", desc := "(C)Z" } : Jvm.MethodName) prog_26_method_6_code (1 : Nat) (Option.some Jvm.ClassFile.FieldType.boolean), Jvm.Cond.code ({ cls := "java/lang/String", name := "substring", desc := "(II)Ljava/lang/String;" } : Jvm.MethodName) jdk_42_method_92_code (5 : Nat) (Option.some (Jvm.ClassFile.FieldType.object "java/lang/String")), Jvm.Cond.code ({ cls := "java/lang/String", name := "checkBoundsBeginEnd", desc := "(III)V" } : Jvm.MethodName) jdk_42_method_158_code (3 : Nat) (Option.none : Option Jvm.ClassFile.FieldType), Jvm.Cond.code ({ cls := "jdk/internal/util/Preconditions", name := "checkFromToIndex", desc := "(IIILjava/util/function/BiFunction;)I" } : Jvm.MethodName) jdk_41_method_12_code (4 : Nat) (Option.some Jvm.ClassFile.FieldType.int), Jvm.Cond.code ({ cls := "java/lang/StringLatin1", name := "newString", desc := "([BII)Ljava/lang/String;" } : Jvm.MethodName) jdk_43_method_47_code (3 : Nat) (Option.some (Jvm.ClassFile.FieldType.object "java/lang/String")), Jvm.Cond.code ({ cls := "java/util/Arrays", name := "copyOfRange", desc := "([BII)[B" } : Jvm.MethodName) jdk_65_method_132_code (3 : Nat) (Option.some (Jvm.ClassFile.FieldType.array Jvm.ClassFile.FieldType.byte)), Jvm.Cond.code ({ cls := "java/util/Arrays", name := "copyOfRangeByte", desc := "([BII)[B" } : Jvm.MethodName) jdk_65_method_133_code (5 : Nat) (Option.some (Jvm.ClassFile.FieldType.array Jvm.ClassFile.FieldType.byte)), Jvm.Cond.code ({ cls := "java/util/Arrays", name := "checkLength", desc := "(II)V" } : Jvm.MethodName) jdk_65_method_131_code (2 : Nat) (Option.none : Option Jvm.ClassFile.FieldType), Jvm.Cond.code ({ cls := "java/lang/Math", name := "min", desc := "(II)I" } : Jvm.MethodName) jdk_29_method_69_code (2 : Nat) (Option.some Jvm.ClassFile.FieldType.int), Jvm.Cond.code ({ cls := "java/lang/String", name := "<init>", desc := "([BB)V" } : Jvm.MethodName) jdk_42_method_151_code (3 : Nat) (Option.none : Option Jvm.ClassFile.FieldType), Jvm.Cond.code ({ cls := "java/lang/String", name := "startsWith", desc := "(Ljava/lang/String;)Z" } : Jvm.MethodName) jdk_42_method_76_code (2 : Nat) (Option.some Jvm.ClassFile.FieldType.boolean), Jvm.Cond.code ({ cls := "java/lang/String", name := "startsWith", desc := "(Ljava/lang/String;I)Z" } : Jvm.MethodName) jdk_42_method_75_code (8 : Nat) (Option.some Jvm.ClassFile.FieldType.boolean), Jvm.Cond.code ({ cls := "jdk/internal/util/ArraysSupport", name := "mismatch", desc := "([BI[BII)I" } : Jvm.MethodName) jdk_48_method_14_code (8 : Nat) (Option.some Jvm.ClassFile.FieldType.int), Jvm.Cond.code ({ cls := "com/example/libidem/libidem/http/KeyHeader", name := "unquoted", desc := "(Ljava/lang/String;)Ljava/lang/String;" } : Jvm.MethodName) prog_26_method_3_code (4 : Nat) (Option.some (Jvm.ClassFile.FieldType.object "java/lang/String")), Jvm.Cond.code ({ cls := "java/lang/StringBuilder", name := "<init>", desc := "()V" } : Jvm.MethodName) jdk_67_method_1_code (1 : Nat) (Option.none : Option Jvm.ClassFile.FieldType), Jvm.Cond.code ({ cls := "java/lang/AbstractStringBuilder", name := "<init>", desc := "(I)V" } : Jvm.MethodName) jdk_68_method_2_code (2 : Nat) (Option.none : Option Jvm.ClassFile.FieldType), Jvm.Cond.code ({ cls := "java/lang/StringBuilder", name := "append", desc := "(C)Ljava/lang/StringBuilder;" } : Jvm.MethodName) jdk_67_method_14_code (2 : Nat) (Option.some (Jvm.ClassFile.FieldType.object "java/lang/StringBuilder")), Jvm.Cond.code ({ cls := "java/lang/AbstractStringBuilder", name := "append", desc := "(C)Ljava/lang/AbstractStringBuilder;" } : Jvm.MethodName) jdk_68_method_31_code (2 : Nat) (Option.some (Jvm.ClassFile.FieldType.object "java/lang/AbstractStringBuilder")), Jvm.Cond.code ({ cls := "java/lang/AbstractStringBuilder", name := "ensureCapacityInternal", desc := "(I)V" } : Jvm.MethodName) jdk_68_method_9_code (3 : Nat) (Option.none : Option Jvm.ClassFile.FieldType), Jvm.Cond.code ({ cls := "java/lang/AbstractStringBuilder", name := "isLatin1", desc := "()Z" } : Jvm.MethodName) jdk_68_method_68_code (1 : Nat) (Option.some Jvm.ClassFile.FieldType.boolean), Jvm.Cond.code ({ cls := "java/lang/StringLatin1", name := "canEncode", desc := "(C)Z" } : Jvm.MethodName) jdk_43_method_3_code (1 : Nat) (Option.some Jvm.ClassFile.FieldType.boolean), Jvm.Cond.code ({ cls := "java/lang/StringBuilder", name := "toString", desc := "()Ljava/lang/String;" } : Jvm.MethodName) jdk_67_method_42_code (1 : Nat) (Option.some (Jvm.ClassFile.FieldType.object "java/lang/String")), Jvm.Cond.code ({ cls := "java/lang/String", name := "<init>", desc := "(Ljava/lang/StringBuilder;)V" } : Jvm.MethodName) jdk_42_method_53_code (2 : Nat) (Option.none : Option Jvm.ClassFile.FieldType), Jvm.Cond.code ({ cls := "java/lang/String", name := "<init>", desc := "(Ljava/lang/AbstractStringBuilder;Ljava/lang/Void;)V" } : Jvm.MethodName) jdk_42_method_150_code (5 : Nat) (Option.none : Option Jvm.ClassFile.FieldType), Jvm.Cond.code ({ cls := "java/lang/AbstractStringBuilder", name := "getValue", desc := "()[B" } : Jvm.MethodName) jdk_68_method_64_code (1 : Nat) (Option.some (Jvm.ClassFile.FieldType.array Jvm.ClassFile.FieldType.byte)), Jvm.Cond.code ({ cls := "java/lang/StringBuilder", name := "length", desc := "()I" } : Jvm.MethodName) jdk_67_method_93_code (1 : Nat) (Option.some Jvm.ClassFile.FieldType.int), Jvm.Cond.code ({ cls := "java/lang/AbstractStringBuilder", name := "length", desc := "()I" } : Jvm.MethodName) jdk_68_method_6_code (1 : Nat) (Option.some Jvm.ClassFile.FieldType.int), Jvm.Cond.code ({ cls := "com/example/libidem/libidem/http/KeyHeader", name := "bare", desc := "(Ljava/lang/String;)Ljava/lang/String;" } : Jvm.MethodName) prog_26_method_4_code (3 : Nat) (Option.some (Jvm.ClassFile.FieldType.object "java/lang/String")), Jvm.Cond.code ({ cls := "com/example/libidem/libidem/http/KeyHeader", name := "isEscaped", desc := "(C)Z" } : Jvm.MethodName) prog_26_method_5_code (1 : Nat) (Option.some Jvm.ClassFile.FieldType.boolean)]
set_option maxRecDepth 65536 in
theorem codes_eq : words1.filter isCode = codes1 := rfl
theorem w_codes : ∀ c ∈ words1.filter isCode, c.before args0 about1 = true := by
  rw [codes_eq]
  intro c hc
  simp only [codes1, List.mem_cons, List.not_mem_nil, or_false] at hc
  rcases hc with rfl | rfl | rfl | rfl | rfl | rfl | rfl | rfl | rfl | rfl | rfl | rfl | rfl | rfl | rfl | rfl | rfl | rfl | rfl | rfl | rfl | rfl | rfl | rfl | rfl | rfl | rfl | rfl | rfl | rfl | rfl | rfl | rfl | rfl | rfl | rfl | rfl | rfl | rfl | rfl | rfl | rfl | rfl | rfl | rfl | rfl | rfl | rfl | rfl
  · exact w_c0
  · exact w_c1
  · exact w_c2
  · exact w_c3
  · exact w_c4
  · exact w_c5
  · exact w_c6
  · exact w_c7
  · exact w_c8
  · exact w_c9
  · exact w_c10
  · exact w_c11
  · exact w_c12
  · exact w_c13
  · exact w_c14
  · exact w_c15
  · exact w_c16
  · exact w_c17
  · exact w_c18
  · exact w_c19
  · exact w_c20
  · exact w_c21
  · exact w_c22
  · exact w_c23
  · exact w_c24
  · exact w_c25
  · exact w_c26
  · exact w_c27
  · exact w_c28
  · exact w_c29
  · exact w_c30
  · exact w_c31
  · exact w_c32
  · exact w_c33
  · exact w_c34
  · exact w_c35
  · exact w_c36
  · exact w_c37
  · exact w_c38
  · exact w_c39
  · exact w_c40
  · exact w_c41
  · exact w_c42
  · exact w_c43
  · exact w_c44
  · exact w_c45
  · exact w_c46
  · exact w_c47
  · exact w_c48
set_option maxRecDepth 65536 in
theorem w_t1 : (words1.take 24).all (fun c => isCode c || c.before args0 about1) = true := by decide +kernel
set_option maxRecDepth 65536 in
theorem w_t2 : ((words1.drop 24).take 24).all (fun c => isCode c || c.before args0 about1) = true := by decide +kernel
set_option maxRecDepth 65536 in
theorem w_t3 : (((words1.drop 24).drop 24).take 24).all (fun c => isCode c || c.before args0 about1) = true := by decide +kernel
set_option maxRecDepth 65536 in
theorem w_t4 : ((((words1.drop 24).drop 24).drop 24).take 24).all (fun c => isCode c || c.before args0 about1) = true := by decide +kernel
set_option maxRecDepth 65536 in
theorem w_t5 : (((((words1.drop 24).drop 24).drop 24).drop 24).take 24).all (fun c => isCode c || c.before args0 about1) = true := by decide +kernel
set_option maxRecDepth 65536 in
theorem w_t6 : ((((((words1.drop 24).drop 24).drop 24).drop 24).drop 24).take 24).all (fun c => isCode c || c.before args0 about1) = true := by decide +kernel
set_option maxRecDepth 65536 in
theorem w_t7 : (((((((words1.drop 24).drop 24).drop 24).drop 24).drop 24).drop 24).take 24).all (fun c => isCode c || c.before args0 about1) = true := by decide +kernel
set_option maxRecDepth 65536 in
theorem w_t8 : ((((((((words1.drop 24).drop 24).drop 24).drop 24).drop 24).drop 24).drop 24).take 24).all (fun c => isCode c || c.before args0 about1) = true := by decide +kernel
set_option maxRecDepth 65536 in
theorem w_t9 : (((((((((words1.drop 24).drop 24).drop 24).drop 24).drop 24).drop 24).drop 24).drop 24).take 24).all (fun c => isCode c || c.before args0 about1) = true := by decide +kernel
set_option maxRecDepth 65536 in
theorem w_t10 : (((((((((words1.drop 24).drop 24).drop 24).drop 24).drop 24).drop 24).drop 24).drop 24).drop 24).all (fun c => isCode c || c.before args0 about1) = true := by decide +kernel
theorem w_tables : (allAtoms (Jvm.Cond.code x code maxLocals ret :: tables_1)).before args0 about1 = true := by
  rw [allAtoms_all]
  show words1.all (fun c => c.before args0 about1) = true
  refine all_split ?_ w_codes
  rw [← List.take_append_drop 24 words1, List.all_append, w_t1, ← List.take_append_drop 24 (words1.drop 24), List.all_append, w_t2, ← List.take_append_drop 24 ((words1.drop 24).drop 24), List.all_append, w_t3, ← List.take_append_drop 24 (((words1.drop 24).drop 24).drop 24), List.all_append, w_t4, ← List.take_append_drop 24 ((((words1.drop 24).drop 24).drop 24).drop 24), List.all_append, w_t5, ← List.take_append_drop 24 (((((words1.drop 24).drop 24).drop 24).drop 24).drop 24), List.all_append, w_t6, ← List.take_append_drop 24 ((((((words1.drop 24).drop 24).drop 24).drop 24).drop 24).drop 24), List.all_append, w_t7, ← List.take_append_drop 24 (((((((words1.drop 24).drop 24).drop 24).drop 24).drop 24).drop 24).drop 24), List.all_append, w_t8, ← List.take_append_drop 24 ((((((((words1.drop 24).drop 24).drop 24).drop 24).drop 24).drop 24).drop 24).drop 24), List.all_append, w_t9, w_t10]
  rfl
set_option maxRecDepth 65536 in
theorem w_rest : rest_1_c.before args0 about1 = true := by decide +kernel
set_option maxRecDepth 65536 in
theorem w_case : (Jvm.Cond.and given_1 narrow_1).before args0 about1 = true := by decide +kernel
set_option maxRecDepth 65536 in
theorem w_consts : constsHeld consts_1 about1 := Jvm.Lit.constsHeldB_iff.mp (by decide +kernel)
theorem w_applies : (headSpec (Jvm.Cond.code x code maxLocals ret :: tables_1) room_1).applies x e0.platform about1 = true :=
  (Spec.applies_iff w_frames).mpr ⟨w_running, w_runnable, w_alone, w_named, w_hears, w_ripe, w_room, w_tables⟩
theorem atStart : AtStart classFile x code maxLocals ret World_1 tables_1 room_1 Calls_1 rest_1 Pre_1 launch0 p0 e0 about1 theMethod args0 below0 :=
  ⟨lists_1, trivial, launch0.admits_env _ _ _, launch0.least_env, fairChoices_fair.cas, fairChoices_fair.clock, w_frames, w_args, w_heap, w_applies, ⟨w_consts, trivial⟩, w_rest, w_case⟩
end start1
theorem witness_1 : WitnessClaimed_1 := ⟨start1.p0, start1.e0, start1.about1, start1.theMethod, start1.args0, start1.below0, start1.atStart⟩
end Jvm.Pilot.@@N@@
