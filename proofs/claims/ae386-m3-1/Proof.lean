import JvmDerived
import JvmDerived.Pilot.@@N@@Statement
import JvmDerived.Pilot.@@N@@Code
set_option linter.unusedVariables false
set_option linter.unusedSimpArgs false
namespace Jvm.OwnK
open Sem ClassFile Op Lib Bundle Jvm.Stand Jvm.Free Jvm.LawKit Jvm.RoadKit
/-! A small calculus of runs over the library's Stand, own text. Run: from any state that stands with heap h at pc, locals L, stack S, the run ends well. -/
abbrev Kx : Type := Program × Launch × Env × Room × State × MethodId × Array Value × List Frame × Method × Code
abbrev Kx.p (K : Kx) : Program := K.1
abbrev Kx.l (K : Kx) : Launch := K.2.1
abbrev Kx.e (K : Kx) : Env := K.2.2.1
abbrev Kx.R (K : Kx) : Room := K.2.2.2.1
abbrev Kx.s (K : Kx) : State := K.2.2.2.2.1
abbrev Kx.m (K : Kx) : MethodId := K.2.2.2.2.2.1
abbrev Kx.as (K : Kx) : Array Value := K.2.2.2.2.2.2.1
abbrev Kx.bl (K : Kx) : List Frame := K.2.2.2.2.2.2.2.1
abbrev Kx.me (K : Kx) : Method := K.2.2.2.2.2.2.2.2.1
abbrev Kx.c (K : Kx) : Code := K.2.2.2.2.2.2.2.2.2
/-- the walk stands at T, its heap h, cl cells and sl slots made; W: places that no booked constant holds -/
def St (Z : State) (EL : List (String × Nat)) (nI : Bool) (K : Kx) (W : List Addr) (h : Heap) (cl sl : Nat) (T : State) : Prop :=
  ∃ (vm0 : Vm) (k0 : Nat) (locs : List Loc), Stand K.p K.l K.e K.R (K.s.setVm vm0) K.m K.as K.bl K.me K.c T locs cl sl ∧ K.s.Since vm0 k0 ∧ k0 ≤ h.size ∧ Z.Warmed39 vm0 ∧ CHr Z EL K.s.vm K.s.heap vm0 h ∧ (∀ x ∈ W, x < h.size ∧ Safe Z EL vm0 h x) ∧ T.heap = h ∧ Fr Z.heap.size locs ∧ (nI = true → K.s.WarmedH vm0) ∧ Ext Z.heap h
def Go (Z : State) (EL : List (String × Nat)) (nI : Bool) (K : Kx) (Q : Option Value → Heap → Prop) (T : State) (g : JFrame) : Prop :=
  ∃ s₂ v L, Steps K.p.tables K.e K.bl (T.setTop g) s₂ ∧ s₂.status = .running ∧ Ended s₂ K.bl (.returned v) ∧ Q v s₂.heap ∧ Fr Z.heap.size L ∧ CHr Z EL K.s.vm K.s.heap s₂.vm s₂.heap ∧ ReturnedEndW K.s (.returned v) s₂ L K.R.cells K.R.slots ∧ (nI = true → K.s.WarmedH s₂.vm) ∧ Ext Z.heap s₂.heap
def Run (Z : State) (EL : List (String × Nat)) (nI : Bool) (K : Kx) (Q : Option Value → Heap → Prop) (W : List Addr) (h : Heap) (cl sl pc : Nat) (L : Array Slot) (S : List Value) : Prop :=
  ∀ T, St Z EL nI K W h cl sl T → Go Z EL nI K Q T (mkF K.m pc L S)
/-- what is known of the invocation -/
def Ok (Z : State) (EL : List (String × Nat)) (a0 : Array Value) (l : Launch) (own nm : String) (bytes : ByteArray) (ml : Nat) (ret : Option FieldType) (R : Room) (K : Kx) : Prop :=
  K.p.tables.exec = Jvm.exec ∧ K.l = l ∧ K.R = R ∧ K.c.code = bytes ∧ K.c.maxLocals = ml ∧ K.me.sig.returnType = ret ∧ K.me.locks = false ∧ K.me.name = nm ∧ K.s.vm.findClass own = some K.m.cls ∧ EW Z a0 EL
/-- a place that a walk may write -/
def Sf (Z : State) (EL : List (String × Nat)) (W : List Addr) (h : Heap) (a : Addr) : Prop := ∀ vm, Z.Warmed39 vm → (∀ x ∈ W, x < h.size ∧ Safe Z EL vm h x) → Safe Z EL vm h a
section Rules
variable {Z : State} {EL : List (String × Nat)} {nI : Bool} {a0 : Array Value} {l : Launch} {own nm : String} {bytes : ByteArray} {ml : Nat} {ret : Option FieldType} {R : Room} {K : Kx} {Q : Option Value → Heap → Prop} {W W' : List Addr} {h : Heap} {cl sl cl' sl' pc pc' : Nat} {L L' : Array Slot} {S S' : List Value} {a : Addr} {C : String} {ty : FieldType}
theorem sfW (hm : a ∈ W) : Sf Z EL W h a := fun _ _ q => (q a hm).2
theorem sfE (E : Exa Z h a C) (h1 : C ≠ "java/lang/String") (h2 : C ≠ "[B") : Sf Z EL W h a := fun _ hZ _ => Safe.exa hZ.alike E h1 h2
theorem sfA {k : ClassId} {z : Int32} {vs : List Value} {dv : Value} (A : Arv Z h a k ty z vs dv) (ht : ty ≠ .byte) : Sf Z EL W h a := fun _ hZ _ => Safe.arv hZ.alike A ht
theorem sfR {c : Cell} (A : Arr Z h a c ty) (ht : ty ≠ .byte) : Sf Z EL W h a := fun _ hZ _ => Safe.arr hZ.alike A ht
theorem sfN : Sf Z [] W h a := fun _ _ _ B => by obtain ⟨p, hp, -⟩ := B; cases hp
/-- fewer places -/
theorem Run.less (k : Run Z EL nI K Q W' h cl sl pc L S) (hs : ∀ x ∈ W', x ∈ W) : Run Z EL nI K Q W h cl sl pc L S := fun T X => by
  obtain ⟨vm0, k0, locs, X1, X2, X3, X4, X5, X6, X7⟩ := X
  exact k T ⟨vm0, k0, locs, X1, X2, X3, X4, X5, fun x hx => X6 x (hs x hx), X7⟩
/-- more room -/
theorem Run.mono (k : Run Z EL nI K Q W h cl' sl' pc L S) (h1 : cl ≤ cl') (h2 : sl ≤ sl') : Run Z EL nI K Q W h cl sl pc L S := fun T X => by
  obtain ⟨vm0, k0, locs, X1, X7⟩ := X
  exact k T ⟨vm0, k0, locs, X1.mono h1 h2, X7⟩
/-- nothing that stood at the start was written -/
theorem Run.old (k : Ext Z.heap h → Run Z EL nI K Q W h cl sl pc L S) : Run Z EL nI K Q W h cl sl pc L S := fun T X => by
  obtain ⟨vm0, k0, locs, X1, X2, X3, X4, X5, X6, X7, X8, X9, X10⟩ := id X
  exact k X10 T X
/-- a step that leaves the heap -/
theorem Run.same (hK : Ok Z EL a0 l own nm bytes ml ret R K)
    (f : ∀ T vm0 locs, Stand K.p K.l K.e K.R (K.s.setVm vm0) K.m K.as K.bl K.me K.c T locs cl sl → Z.Warmed39 (K.s.setVm vm0).vm → (K.s.setVm vm0).vm.findClass own = some K.m.cls → T.heap = h →
      ∃ T', Stand K.p K.l K.e K.R (K.s.setVm vm0) K.m K.as K.bl K.me K.c T' locs cl sl ∧ T'.heap = h ∧ ∀ t, Steps K.p.tables K.e K.bl (T'.setTop (mkF K.m pc' L' S')) t → Steps K.p.tables K.e K.bl (T.setTop (mkF K.m pc L S)) t)
    (k : Run Z EL nI K Q W h cl sl pc' L' S') : Run Z EL nI K Q W h cl sl pc L S := fun T X => by
  obtain ⟨vm0, k0, locs, X1, X2, X3, X4, X5, X6, X7, X8⟩ := X
  obtain ⟨T', Y, eY, st⟩ := f T vm0 locs X1 X4 (by rw [show (K.s.setVm vm0).vm = vm0 from rfl, X2.1.alike.findClass]; exact hK.2.2.2.2.2.2.2.2.1) X7
  obtain ⟨s2, v, Lo, g, r⟩ := k T' ⟨vm0, k0, locs, Y, X2, X3, X4, X5, X6, eY, X8⟩
  exact ⟨s2, v, Lo, st _ g, r⟩
/-- a step that moves frames alone -/
theorem Run.step (hK : Ok Z EL a0 l own nm bytes ml ret R K)
    (f : ∀ T, At T K.m K.c K.bl → ∀ t, Steps K.p.tables K.e K.bl (T.setTop (mkF K.m pc' L' S')) t → Steps K.p.tables K.e K.bl (T.setTop (mkF K.m pc L S)) t)
    (k : Run Z EL nI K Q W h cl sl pc' L' S') : Run Z EL nI K Q W h cl sl pc L S :=
  Run.same hK (fun T vm0 locs X _ _ e => ⟨T, X, e, f T X.here⟩) k
/-- a step that makes cells -/
theorem Run.grow (hK : Ok Z EL a0 l own nm bytes ml ret R K) {P : Heap → Prop}
    (f : ∀ T vm0 locs, Stand K.p K.l K.e K.R (K.s.setVm vm0) K.m K.as K.bl K.me K.c T locs cl sl → Z.Warmed39 (K.s.setVm vm0).vm → (K.s.setVm vm0).vm.findClass own = some K.m.cls → T.heap = h →
      ∃ T' h', Stand K.p K.l K.e K.R (K.s.setVm vm0) K.m K.as K.bl K.me K.c T' locs cl' sl' ∧ T'.heap = h' ∧ Ext h h' ∧ h.size < h'.size ∧ P h' ∧ ∀ t, Steps K.p.tables K.e K.bl (T'.setTop (mkF K.m pc' L' S')) t → Steps K.p.tables K.e K.bl (T.setTop (mkF K.m pc L S)) t)
    (k : ∀ h', Ext h h' → P h' → Run Z EL nI K Q (h.size :: W) h' cl' sl' pc' L' S') : Run Z EL nI K Q W h cl sl pc L S := fun T X => by
  obtain ⟨vm0, k0, locs, X1, X2, X3, X4, X5, X6, X7, X8, X9, X10⟩ := X
  obtain ⟨T', h', Y, eY, E, hsz, hP, st⟩ := f T vm0 locs X1 X4 (by rw [show (K.s.setVm vm0).vm = vm0 from rfl, X2.1.alike.findClass]; exact hK.2.2.2.2.2.2.2.2.1) X7
  obtain ⟨s2, v, Lo, g, r⟩ := k h' E hP T' ⟨vm0, k0, locs, Y, X2, Nat.le_trans X3 E.1, X4, X5.trans (CHr.ext E X5.1), fun x hx => by
    rcases List.mem_cons.mp hx with rfl | hx
    · exact ⟨hsz, Safe.ext E X5.1 (Safe.new (Nat.le_refl _))⟩
    · exact ⟨Nat.lt_of_lt_of_le (X6 x hx).1 E.1, Safe.ext E X5.1 (X6 x hx).2⟩, eY, X8, X9, Nat.le_trans X10.1 E.1, fun x c q => E.2 x c (X10.2 x c q)⟩
  exact ⟨s2, v, Lo, st _ g, r⟩
/-- a step that writes one place -/
theorem Run.write (hK : Ok Z EL a0 l own nm bytes ml ret R K) {i : Nat} {w : Value} (ha : Z.heap.size ≤ a) (hs : Sf Z EL W h a)
    (f : ∀ T vm0 locs, Stand K.p K.l K.e K.R (K.s.setVm vm0) K.m K.as K.bl K.me K.c T locs cl sl → Z.Warmed39 (K.s.setVm vm0).vm → (K.s.setVm vm0).vm.findClass own = some K.m.cls → T.heap = h →
      ∃ T' h', Stand K.p K.l K.e K.R (K.s.setVm vm0) K.m K.as K.bl K.me K.c T' (locs ++ [⟨a, i⟩]) cl sl ∧ T'.heap = h' ∧ Wr h h' a i w ∧ ∀ t, Steps K.p.tables K.e K.bl (T'.setTop (mkF K.m pc' L' S')) t → Steps K.p.tables K.e K.bl (T.setTop (mkF K.m pc L S)) t)
    (k : ∀ h', Wr h h' a i w → Run Z EL nI K Q W h' cl sl pc' L' S') : Run Z EL nI K Q W h cl sl pc L S := fun T X => by
  obtain ⟨vm0, k0, locs, X1, X2, X3, X4, X5, X6, X7, X8, X9, X10⟩ := X
  obtain ⟨T', h', Y, eY, Wt, st⟩ := f T vm0 locs X1 X4 (by rw [show (K.s.setVm vm0).vm = vm0 from rfl, X2.1.alike.findClass]; exact hK.2.2.2.2.2.2.2.2.1) X7
  have hsz := Wt.size
  have sa := hs vm0 X4 X6
  obtain ⟨s2, v, Lo, g, r⟩ := k h' Wt T' ⟨vm0, k0, _, Y, X2, hsz ▸ X3, X4, X5.trans (CHr.wr Wt sa X5.1), fun x hx => ⟨hsz ▸ (X6 x hx).1, Safe.wr Wt sa X5.1 (X6 x hx).2⟩, eY, Fr.snoc Y X8 ha, X9, (Old.wr (Z := Z) (n0 := Z.heap.size) ⟨rfl, X10⟩ Wt ha).2⟩
  exact ⟨s2, v, Lo, st _ g, r⟩
end Rules
/-- **A CALLEE, PAID**: whatever pays it -/
def Cal (Z : State) (EL : List (String × Nat)) (nI : Bool) (a0 : Array Value) (l : Launch) (R : Room) (y : MethodName) (len Wt : Nat) (as' : Array Value) (h : Heap) (W : List Addr) (kc ks : Nat) (Qy : Option Value → Heap → Prop) : Prop :=
  ∀ (p : Program) (e : Env) (bl : List Frame) (s : State) (as : Array Value) (vm0 : Vm), Z.Warmed39 vm0 → EW Z a0 EL → CHv Z EL vm0 h → (∀ x ∈ W, x < h.size ∧ Safe Z EL vm0 h x) → Ext Z.heap h →
    BackS l R p e bl (s.setVm vm0) as y len Wt (fun A a => a = as' ∧ A.U.heap = h ∧ A.cells + kc ≤ R.cells ∧ A.slots + ks ≤ R.slots)
      (fun A _ v B => ∃ Lo, Qy v B.U.heap ∧ Fr Z.heap.size Lo ∧ B.locs = A.locs ++ Lo ∧ B.cells = A.cells + kc ∧ B.slots = A.slots + ks ∧ CHr Z EL vm0 h B.U.vm B.U.heap ∧ (nI = true → (s.setVm vm0).WarmedH B.U.vm) ∧ Ext Z.heap B.U.heap)
/-- an own contract -/
def Ctr (Z : State) (EL : List (String × Nat)) (nI : Bool) (l : Launch) (ws : List Jvm.Cond) (y : MethodName) (bytes : ByteArray) (ml : Nat) (ret : Option FieldType) (rm : Room) (as' : Array Value) (h : Heap) (W : List Addr) (Qy : Option Value → Heap → Prop) : Prop :=
  MetFree l y (head1 (Jvm.Cond.code y bytes ml ret :: ws) rm) (fun a U => a = as' ∧ Z.Warmed39 U.vm ∧ U.heap = h ∧ CHv Z EL U.vm h ∧ (∀ x ∈ W, x < h.size ∧ Safe Z EL U.vm h x) ∧ Ext Z.heap h) (fun _ _ _ _ _ => True)
    (fun _ U o U' => ∃ v Lo, o = .returned v ∧ Qy v U'.heap ∧ Fr Z.heap.size Lo ∧ CHr Z EL U.vm U.heap U'.vm U'.heap ∧ ReturnedEndW U o U' Lo rm.cells rm.slots ∧ (nI = true → U.WarmedH U'.vm) ∧ Ext Z.heap U'.heap)
section Calls
variable {Z : State} {EL : List (String × Nat)} {nI : Bool} {a0 : Array Value} {l : Launch} {own nm : String} {bytes : ByteArray} {ml : Nat} {ret : Option FieldType} {R rm : Room} {K : Kx} {Q Qy : Option Value → Heap → Prop} {W W' : List Addr} {h : Heap} {cl sl pc len Wt kc ks : Nat} {L : Array Slot} {S rest argsL : List Value} {y z : MethodName} {as' : Array Value} {index : Nat}
theorem Ctr.of_run {L0 : Array Slot} {ws : List Jvm.Cond} (hpl : plainFor y = true) (hEL : EW Z a0 EL) (hent : argsToLocals as' ml = L0)
    (body : ∀ K, Ok Z EL a0 l y.cls y.name bytes ml ret rm K → Run Z EL nI K Qy W h 0 0 0 L0 []) : Ctr Z EL nI l ws y bytes ml ret rm as' h W Qy := by
  refine MetFree.of_bodySF (code := bytes) (maxLocals := ml) (ret := ret) hpl hisR ?_
  intro p e s m args below meth c s₁ Bd hml hP hK
  obtain ⟨rfl, hZ, hh, hC, hS, hO⟩ := hP
  subst hent
  have e0 : s₁.heap = h := by rw [← hh, Bd.state]; rfl
  obtain ⟨s2, v, Lo, g1, g2, g3, g4, g5, g6, g7, g8⟩ := body (p, l, e, rm, s, m, args, below, meth, c) ⟨Bd.exec, rfl, rfl, Bd.bytes, hml, Bd.returns, Bd.notSynchronized, (name_of_methodNamed Bd.named Bd.method).1, findClass_of_methodNamed Bd.named, hEL⟩ s₁
    ⟨s.vm, 0, [], Stand.of_body Bd, (State.WarmedH.refl s).since 0, Nat.zero_le _, hZ, by subst hh; exact CHr.refl hC, hS, e0, Fr.nil _, fun _ => State.WarmedH.refl s, hO⟩
  exact ⟨s2, _, g1, g2, g3, v, Lo, rfl, g4, g5, g6, g7, g8⟩
theorem Ctr.cal (hC : Ctr Z EL nI l [] y bytes ml ret rm as' h W Qy) (wc : (Jvm.Cond.code y bytes ml ret).before a0 Z = true) (wz : (Jvm.Cond.initialized y.cls).before a0 Z = true) (hf : rm.frames + 1 ≤ R.frames) (hl : Wt + (ml + 11) + rm.locals ≤ R.locals) :
    Cal Z EL nI a0 l R y len Wt as' h W rm.cells rm.slots Qy := fun p e bl s as vm0 hZ hEL H hS hO =>
  BackS.of_freeW (bytes := bytes) (maxL := ml) (ret := ret) (E := fun _ first o t Lo k n => k = rm.cells ∧ n = rm.slots ∧ (∃ v, o = .returned v ∧ Qy v t.heap) ∧ Fr Z.heap.size Lo ∧ CHr Z EL first.vm first.heap t.vm t.heap ∧ (nI = true → first.WarmedH t.vm) ∧ Ext Z.heap t.heap) hC hf hl
    (fun m meth c A a Y hp => have hU : Z.Warmed39 A.U.vm := wtrans (s := s.setVm vm0) hZ Y.warmed
      ⟨by show (Cond.and _ .tt).before a A.U = true; rw [Cond.before_and, mv hU wc]; rfl, mv hU wc, mv hU wz, hp.2.2.1, hp.2.2.2⟩)
    (fun m meth c A a g mk Y hp => have B := CHv.at Y hZ hEL H; ⟨hp.1, wtrans (s := s.setVm vm0) hZ Y.warmed, hp.2.1, B.1, fun x hx => ⟨(hS x hx).1, B.safe (hS x hx).1 (hS x hx).2⟩, hO⟩) (fun _ _ _ _ _ _ _ _ _ => trivial)
    (fun _ _ _ _ ⟨v, Lo, h1, h2, h3, h4, h5, h6⟩ => ⟨Lo, _, _, h5, rfl, rfl, ⟨v, h1, h2⟩, h3, h4, h6⟩)
    (fun m meth c A a g mk v t Lo k n Y hp _ _ ⟨e1, e2, ⟨v', e3, e4⟩, e5, e6, e7, e8⟩ => by
      cases e3; subst e1 e2
      refine ⟨Lo, e4, e5, rfl, rfl, rfl, (CHv.at Y hZ hEL H).trans ?_, fun q => State.WarmedH.trans Y.warmed (e7 q), e8⟩
      rw [← hp.2.1]; exact e6)
/-- a law of the library's or of a paste, that interns nothing -/
theorem Cal.of_back {Qz : Option Value → Heap → List Loc → Prop}
    (hB : ∀ (p : Program) (e : Env) (bl : List Frame) (s : State) (as : Array Value), Z.Warmed39 s.vm → Ext Z.heap h → Back l R p e bl s as y len Wt (fun A a => a = as' ∧ A.U.heap = h ∧ A.cells + kc ≤ R.cells ∧ A.slots + ks ≤ R.slots) (fun A _ v B => ∃ Lo, Qz v B.U.heap Lo ∧ B.locs = A.locs ++ Lo ∧ B.cells = A.cells + kc ∧ B.slots = A.slots + ks))
    (hQ : ∀ v h' Lo, Qz v h' Lo → Qy v h' ∧ Fr Z.heap.size Lo ∧ ∃ ws, Keep h h' ws ∧ ∀ x ∈ ws, Z.heap.size ≤ x ∧ Sf Z EL W h x) : Cal Z EL nI a0 l R y len Wt as' h W kc ks Qy := fun p e bl s as vm0 hZ hEL H hS hO => by
  intro m meth c A g ig mk a X hg hsize hdg hW hn hp
  obtain ⟨v, B, X', ⟨Lo, hq, e1, e2, e3⟩, hsteps⟩ := hB p e bl (s.setVm vm0) as hZ hO m meth c A g ig mk a X hg hsize hdg hW hn hp
  obtain ⟨q1, q2, ws, q3, q4⟩ := hQ _ _ _ hq
  have hs : ∀ x ∈ ws, Safe Z EL vm0 h x := fun x hx => (q4 x hx).2 vm0 hZ hS
  exact ⟨v, B, X'.retabled X'.warmed.wide, X'.warmed.since _, by rw [hp.2.1]; exact q3.1, ⟨Lo, q1, q2, e1, e2, e3, (CHr.keep q3 hs H).trans (CHv.at X' hZ hEL (H.keep q3 hs)), fun _ => X'.warmed, (Old.keep (Z := Z) (n0 := Z.heap.size) ⟨rfl, hO⟩ q3 (fun x hx => (q4 x hx).1)).2⟩, hsteps⟩
theorem Cal.more {kc' ks' : Nat} (hC : Cal Z EL nI a0 l R y len Wt as' h W kc ks Qy) (h1 : kc ≤ kc') (h2 : ks ≤ ks') : Cal Z EL nI a0 l R y len Wt as' h W kc' ks' Qy := fun p e bl s as vm0 hZ hEL H hS hO => by
  intro m meth c A g ig mk a X hg hsize hdg hW hn hp
  obtain ⟨v, B, X', q1, q2, ⟨Lo, r1, r2, r3, r4, r5, r6⟩, st⟩ := hC p e bl s as vm0 hZ hEL H hS hO m meth c A g ig mk a X hg hsize hdg hW hn ⟨hp.1, hp.2.1, by have := hp.2.2.1; omega, by have := hp.2.2.2; omega⟩
  exact ⟨v, ⟨B.U, B.locs, A.cells + kc', A.slots + ks'⟩, X'.mono (by show B.cells ≤ A.cells + kc'; rw [r4]; omega) (by show B.slots ≤ A.slots + ks'; rw [r5]; omega), q1, q2, ⟨Lo, r1, r2, r3, rfl, rfl, r6⟩, st⟩
theorem Cal.conseq {Qz : Option Value → Heap → Prop} (hC : Cal Z EL nI a0 l R y len Wt as' h W' kc ks Qy) (hs : ∀ x ∈ W', x ∈ W) (hq : ∀ v h', Qy v h' → Qz v h') : Cal Z EL nI a0 l R y len Wt as' h W kc ks Qz := fun p e bl s as vm0 hZ hEL H hS hO => by
  intro m meth c A g ig mk a X hg hsize hdg hW hn hp
  obtain ⟨v, B, X', q1, q2, ⟨Lo, r1, r⟩, st⟩ := hC p e bl s as vm0 hZ hEL H (fun x hx => hS x (hs x hx)) hO m meth c A g ig mk a X hg hsize hdg hW hn hp
  exact ⟨v, B, X', q1, q2, ⟨Lo, hq _ _ r1, r⟩, st⟩
/-- behind a call: the walk stands again -/
theorem St.back (hK : Ok Z EL a0 l own nm bytes ml ret R K) {vm0 : Vm} {k0 : Nat} {locs : List Loc} {v : Option Value} {B : Pt} (X2 : K.s.Since vm0 k0) (X3 : k0 ≤ h.size) (X4 : Z.Warmed39 vm0) (X5 : CHr Z EL K.s.vm K.s.heap vm0 h) (X6 : ∀ x ∈ W, x < h.size ∧ Safe Z EL vm0 h x) (X8 : Fr Z.heap.size locs) (X9 : nI = true → K.s.WarmedH vm0)
    (Y : Stand K.p K.l K.e K.R ((K.s.setVm vm0).setVm B.U.vm) K.m K.as K.bl K.me K.c B.U B.locs B.cells B.slots) (hS : (K.s.setVm vm0).Since B.U.vm B.U.heap.size) (hg : h.size ≤ B.U.heap.size)
    (hp : ∃ Lo, Qy v B.U.heap ∧ Fr Z.heap.size Lo ∧ B.locs = locs ++ Lo ∧ B.cells = cl + kc ∧ B.slots = sl + ks ∧ CHr Z EL vm0 h B.U.vm B.U.heap ∧ (nI = true → (K.s.setVm vm0).WarmedH B.U.vm) ∧ Ext Z.heap B.U.heap) :
    Qy v B.U.heap ∧ St Z EL nI K W B.U.heap (cl + kc) (sl + ks) B.U := by
  obtain ⟨Lo, h1, h2, h3, h4, h5, h6, h7, h8⟩ := hp
  rw [h3, h4, h5] at Y
  exact ⟨h1, B.U.vm, B.U.heap.size, _, Y, X2.trans hS (Nat.le_trans X3 hg), Nat.le_refl _, State.Warmed39.trans (t := K.s.setVm vm0) X4 hS.1, X5.trans h6, fun x hx => ⟨Nat.lt_of_lt_of_le (X6 x hx).1 hg, h6.safe (X6 x hx).1 (X6 x hx).2⟩, rfl, X8.app h2, fun q => State.WarmedH.trans (X9 q) (h7 q), h8⟩
theorem Ok.fc (hK : Ok Z EL a0 l own nm bytes ml ret R K) {vm0 : Vm} {k0 : Nat} (X2 : K.s.Since vm0 k0) : (K.s.setVm vm0).vm.findClass own = some K.m.cls := by rw [show (K.s.setVm vm0).vm = vm0 from rfl, X2.1.alike.findClass]; exact hK.2.2.2.2.2.2.2.2.1
/-- invokestatic -/
theorem Run.static (hK : Ok Z EL a0 l own nm bytes ml ret R K) {by' : ByteArray} {ml' : Nat} {ret' : Option FieldType} (w1 : (Jvm.Cond.methodLink own index y).before a0 Z = true) (w2 : (Jvm.Cond.static y).before a0 Z = true) (w3 : (Jvm.Cond.initialized y.cls).before a0 Z = true) (w4 : (Jvm.Cond.code y by' ml' ret').before a0 Z = true)
    (hy : y.cls ≠ "java/lang/invoke/MethodHandle" ∧ y.cls ≠ "java/lang/invoke/VarHandle") (hsub : ∀ x ∈ W', x ∈ W) (hC : Cal Z EL nI a0 l R y 3 Wt argsL.toArray h W' kc ks Qy) (hsz : L.size = ml)
    (hlen : ∀ sig, parseMethodDescriptor y.desc = some sig → argsL.length = sig.parameters.length) (hst : S = argsL.reverse ++ rest) (hW : (rest.map fun v => v.category).sum ≤ Wt) (hd : decode bytes pc = .ok (.invokestatic index, 3)) (hc : cl + kc ≤ R.cells) (hs : sl + ks ≤ R.slots)
    (k : ∀ v h', Qy v h' → h.size ≤ h'.size → Run Z EL nI K Q W h' (cl + kc) (sl + ks) (pc + 3) L (v.toList ++ rest)) : Run Z EL nI K Q W h cl sl pc L S := fun T X => by
  obtain ⟨vm0, k0, locs, X1, X2, X3, X4, X5, X6, X7, X8, X9, X10⟩ := X
  have hown := hK.fc X2
  obtain ⟨hx, rfl, rfl, rfl, rfl, -, -, -, -, hEL⟩ := id hK
  have hZ : Z.Warmed39 (K.s.setVm vm0).vm := X4
  subst hst
  obtain ⟨v, vm1, B, -, Y, hS, hg, hp, st⟩ := callSS X1 hx (y := y) hown (mvT hZ w1) (mvT hZ w2) (mvT hZ w3) (mvT hZ w4) hy (hC K.p K.e K.bl K.s K.as vm0 X4 hEL X5.1 (fun x hx => X6 x (hsub x hx)) X10) (g := mkF K.m pc L (argsL.reverse ++ rest)) rfl hsz (argsL := argsL) (rest := rest) hlen rfl (by show 2 * 0 + _ ≤ _; omega) hd (fun _ _ => ⟨rfl, X7, hc, hs⟩)
  rw [X7] at hg
  obtain ⟨hq, Y'⟩ := St.back hK X2 X3 X4 X5 X6 X8 X9 Y hS hg hp
  obtain ⟨s2, v', Lo, g, r⟩ := k v _ hq hg B.U Y'
  exact ⟨s2, v', Lo, st.trans g, r⟩
/-- invokespecial of a constructor -/
theorem Run.special (hK : Ok Z EL a0 l own nm bytes ml ret R K) {by' : ByteArray} {ml' : Nat} (hy1 : y.name = "<init>") (w1 : (Jvm.Cond.methodLink own index y).before a0 Z = true) (w2 : (Jvm.Cond.instanceMethod y).before a0 Z = true) (w4 : (Jvm.Cond.code y by' ml' none).before a0 Z = true)
    (hy : y.cls ≠ "java/lang/invoke/MethodHandle" ∧ y.cls ≠ "java/lang/invoke/VarHandle") {a : Addr} (hsub : ∀ x ∈ W', x ∈ W) (hC : Cal Z EL nI a0 l R y 3 Wt (.ref a :: argsL).toArray h W' kc ks Qy) (hsz : L.size = ml)
    (hlen : ∀ sig, parseMethodDescriptor y.desc = some sig → argsL.length = sig.parameters.length) (hst : S = argsL.reverse ++ .ref a :: rest) (hW : (rest.map fun v => v.category).sum ≤ Wt) (hd : decode bytes pc = .ok (.invokespecial index, 3)) (hc : cl + kc ≤ R.cells) (hs : sl + ks ≤ R.slots)
    (k : ∀ v h', Qy v h' → h.size ≤ h'.size → Run Z EL nI K Q W h' (cl + kc) (sl + ks) (pc + 3) L (v.toList ++ rest)) : Run Z EL nI K Q W h cl sl pc L S := fun T X => by
  obtain ⟨vm0, k0, locs, X1, X2, X3, X4, X5, X6, X7, X8, X9, X10⟩ := X
  have hown := hK.fc X2
  obtain ⟨hx, rfl, rfl, rfl, rfl, -, -, -, -, hEL⟩ := id hK
  have hZ : Z.Warmed39 (K.s.setVm vm0).vm := X4
  subst hst
  obtain ⟨v, vm1, B, -, Y, hS, hg, hp, st⟩ := X1.specialBackS hx (y := y) hy1 hown (mvT hZ w1) (mvT hZ w2) (mvT hZ w4) hy (hC K.p K.e K.bl K.s K.as vm0 X4 hEL X5.1 (fun x hx => X6 x (hsub x hx)) X10) (g := mkF K.m pc L (argsL.reverse ++ .ref a :: rest)) rfl hsz (Steps.refl _) (a := a) (argsL := argsL) (rest := rest) hlen rfl (by show 2 * 0 + _ ≤ _; omega) hd (fun _ _ => ⟨rfl, X7, hc, hs⟩)
  rw [X7] at hg
  obtain ⟨hq, Y'⟩ := St.back hK X2 X3 X4 X5 X6 X8 X9 Y hS hg hp
  obtain ⟨s2, v', Lo, g, r⟩ := k v _ hq hg B.U Y'
  exact ⟨s2, v', Lo, st.trans g, r⟩
/-- invokevirtual, the object exactly of class C -/
theorem Run.virtual (hK : Ok Z EL a0 l own nm bytes ml ret R K) {C : String} (w1 : (Jvm.Cond.methodLink own index y).before a0 Z = true) (w2 : (Jvm.Cond.declares y).before a0 Z = true) (hnf : ∀ s : State, Z.Warmed39 s.vm → NotFace s y) (w3 : (Jvm.Cond.selects C y z).before a0 Z = true) (w4 : (Jvm.Cond.instanceMethod z).before a0 Z = true)
    (hy : y.cls ≠ "java/lang/invoke/MethodHandle" ∧ y.cls ≠ "java/lang/invoke/VarHandle") {a : Addr} (E : Exa Z h a C) (hsub : ∀ x ∈ W', x ∈ W) (hC : Cal Z EL nI a0 l R z 3 Wt (.ref a :: argsL).toArray h W' kc ks Qy) (hsz : L.size = ml)
    (hlen : ∀ sig, parseMethodDescriptor y.desc = some sig → argsL.length = sig.parameters.length) (hst : S = argsL.reverse ++ .ref a :: rest) (hW : (rest.map fun v => v.category).sum ≤ Wt) (hd : decode bytes pc = .ok (.invokevirtual index, 3)) (hc : cl + kc ≤ R.cells) (hs : sl + ks ≤ R.slots)
    (k : ∀ v h', Qy v h' → h.size ≤ h'.size → Run Z EL nI K Q W h' (cl + kc) (sl + ks) (pc + 3) L (v.toList ++ rest)) : Run Z EL nI K Q W h cl sl pc L S := fun T X => by
  obtain ⟨vm0, k0, locs, X1, X2, X3, X4, X5, X6, X7, X8, X9, X10⟩ := X
  have hown := hK.fc X2
  obtain ⟨hx, rfl, rfl, rfl, rfl, -, -, -, -, hEL⟩ := id hK
  have hZ : Z.Warmed39 (K.s.setVm vm0).vm := X4
  subst hst
  obtain ⟨cq, kq, qa, qb, qc⟩ := isOf hZ X7 E
  obtain ⟨v, vm1, B, -, Y, hS, hg, hp, st⟩ := X1.virtualBackS hx (y := y) (z := z) hown (mvT hZ w1) (mvT hZ w2) (hnf _ hZ) (mvT hZ w3) (mvT hZ w4) hy (hC K.p K.e K.bl K.s K.as vm0 X4 hEL X5.1 (fun x hx => X6 x (hsub x hx)) X10) qa qc (g := mkF K.m pc L (argsL.reverse ++ .ref a :: rest)) rfl hsz (Steps.refl _) (argsL := argsL) (rest := rest) hlen rfl (by show 2 * 0 + _ ≤ _; omega) hd (fun _ _ => ⟨rfl, X7, hc, hs⟩)
  rw [X7] at hg
  obtain ⟨hq, Y'⟩ := St.back hK X2 X3 X4 X5 X6 X8 X9 Y hS hg hp
  obtain ⟨s2, v', Lo, g, r⟩ := k v _ hq hg B.U Y'
  exact ⟨s2, v', Lo, st.trans g, r⟩
/-- invokevirtual of a private method of an ordinary class -/
theorem Run.privat (hK : Ok Z EL a0 l own nm bytes ml ret R K) {by' : ByteArray} {ml' n' : Nat} {ret' : Option FieldType} {C : String} (w1 : (Jvm.Cond.methodLink own index y).before a0 Z = true) (w2 : (Jvm.Cond.instanceMethod y).before a0 Z = true) (w3 : (Jvm.Cond.instantiable y.cls n').before a0 Z = true) (w5 : (Jvm.Cond.privateMethod y).before a0 Z = true) (w4 : (Jvm.Cond.code y by' ml' ret').before a0 Z = true)
    (hy : y.cls ≠ "java/lang/invoke/MethodHandle" ∧ y.cls ≠ "java/lang/invoke/VarHandle") {a : Addr} (E : Exa Z h a C) (hsub : ∀ x ∈ W', x ∈ W) (hC : Cal Z EL nI a0 l R y 3 Wt (.ref a :: argsL).toArray h W' kc ks Qy) (hsz : L.size = ml)
    (hlen : ∀ sig, parseMethodDescriptor y.desc = some sig → argsL.length = sig.parameters.length) (hst : S = argsL.reverse ++ .ref a :: rest) (hW : (rest.map fun v => v.category).sum ≤ Wt) (hd : decode bytes pc = .ok (.invokevirtual index, 3)) (hc : cl + kc ≤ R.cells) (hs : sl + ks ≤ R.slots)
    (k : ∀ v h', Qy v h' → h.size ≤ h'.size → Run Z EL nI K Q W h' (cl + kc) (sl + ks) (pc + 3) L (v.toList ++ rest)) : Run Z EL nI K Q W h cl sl pc L S := fun T X => by
  obtain ⟨vm0, k0, locs, X1, X2, X3, X4, X5, X6, X7, X8, X9, X10⟩ := X
  have hown := hK.fc X2
  obtain ⟨hx, rfl, rfl, rfl, rfl, -, -, -, -, hEL⟩ := id hK
  have hZ : Z.Warmed39 (K.s.setVm vm0).vm := X4
  subst hst
  obtain ⟨cq, q1, q2⟩ := E.cell
  obtain ⟨mk, me, hn, hm, hst', hab⟩ := Cond.instanceMethod_spec (mvT (args := K.as) hZ w2)
  obtain ⟨me', cM, hm', -, -, -, -, -, -, hsig⟩ := Cond.code_spec hn (mvT (args := K.as) hZ w4)
  cases hm.symm.trans hm'
  obtain ⟨ci, ki, i1, i2, -, i4, -⟩ := Cond.instantiable_spec (mvT (args := K.as) hZ w3)
  obtain rfl : ci = mk.cls := Option.some.inj (i1.symm.trans (findClass_of_methodNamed hn))
  have i5 : ki.isInterface = false := by cases q : ki.isInterface <;> simp [q] at i4 ⊢
  have hsel : selectMethod K.e.platform (K.s.setVm vm0).vm cq.cls mk = .method mk := selectMethod_private hm (Cond.privateMethod_at (mvP hZ w5 (args := #[])) mk me hn hm)
  obtain ⟨vm1, Y1, st1⟩ := X1.invokevirtual hx hown (mvT hZ w1) hn hm hst' i2 i5 hy (a := a) (cell := cq) (by rw [X7]; exact q1) q2 hsel hm hab i2 i5 (g := mkF K.m pc L (argsL.reverse ++ .ref a :: rest)) rfl (argsL := argsL) (rest := rest) (hlen _ hsig) rfl hd
  obtain ⟨v, B, Y, hS, hg, hp, st2⟩ := hC K.p K.e K.bl K.s K.as vm0 X4 hEL X5.1 (fun x hx => X6 x (hsub x hx)) X10 K.m K.me K.c ⟨T.setVm vm1, locs, cl, sl⟩ (mkF K.m pc L rest) (.invokevirtual index) mk (.ref a :: argsL).toArray Y1 rfl hsz hd (by show 2 * 0 + (rest.map fun v => v.category).sum ≤ Wt; omega) (Y1.named hn) ⟨rfl, X7, hc, hs⟩
  replace hg : h.size ≤ B.U.heap.size := by rw [← X7]; exact hg
  obtain ⟨hq, Y'⟩ := St.back hK X2 X3 X4 X5 X6 X8 X9 Y hS hg hp
  obtain ⟨s2, v', Lo, g, r⟩ := k v _ hq hg B.U Y'
  exact ⟨s2, v', Lo, st1 _ fun acts => by rw [doInvoke_state]; exact st2.trans g, r⟩
theorem nfS {C : String} (w3 : (Jvm.Cond.selects C y y).before a0 Z = true) : ∀ s : State, Z.Warmed39 s.vm → NotFace s y := fun s hZ => notFace_of_selects (args := #[]) (mvT hZ w3)
end Calls
section Single
variable {Z : State} {EL : List (String × Nat)} {nI : Bool} {a0 : Array Value} {l : Launch} {own nm : String} {bytes : ByteArray} {ml : Nat} {ret : Option FieldType} {R : Room} {K : Kx} {Q : Option Value → Heap → Prop} {W : List Addr} {h : Heap} {cl sl pc pc' index : Nat} {L L' : Array Slot} {S rest : List Value} {a : Addr} {C : String} {ty : FieldType}
theorem Run.new (hK : Ok Z EL a0 l own nm bytes ml ret R K) {n : Nat} (w : (Jvm.Cond.classLink own index C).before a0 Z = true) (wi : (Jvm.Cond.instantiable C n).before a0 Z = true) (wz : (Jvm.Cond.initialized C).before a0 Z = true) (hd : decode bytes pc = .ok (.new index, 3)) (hc : cl + 1 ≤ R.cells) (hl : sl + n ≤ R.slots)
    (k : ∀ h', Ext h h' → Exa Z h' h.size C → (∀ {O f d : String} {ty : FieldType}, Laid Z a0 C O f d → parseFieldDescriptor d = some ty → Fld Z h' h.size O f d (defaultValue ty)) → Run Z EL nI K Q (h.size :: W) h' (cl + 1) (sl + n) (pc + 3) L (.ref h.size :: S)) : Run Z EL nI K Q W h cl sl pc L S := by
  obtain ⟨hx, rfl, rfl, rfl, rfl, -⟩ := id hK
  refine Run.grow hK (P := fun h' => Exa Z h' h.size C ∧ (∀ {O f d : String} {ty : FieldType}, Laid Z a0 C O f d → parseFieldDescriptor d = some ty → Fld Z h' h.size O f d (defaultValue ty))) (fun T vm0 locs X hZ hown e => ?_) (fun h' E P => k h' E P.1 P.2)
  obtain ⟨T', h', X', e', E', A', D', -, st⟩ := newO X hx hZ hown w wi wz e (g := mkF K.m pc L S) rfl hd hc hl
  exact ⟨T', h', X', e', E', A'.lt, ⟨A', D'⟩, st⟩
theorem Run.newarr (hK : Ok Z EL a0 l own nm bytes ml ret R K) {aty : ArrayType} (w : (Jvm.Cond.arrayClass (newarray.typeOf aty)).before a0 Z = true) {n : Int32} (hd : decode bytes pc = .ok (.newarray aty, 2)) (hn : ¬ n < 0) {cap : Nat} (hcap : n.toNatClampNeg ≤ cap) (hb : cap * 8 ≤ 536870912) (hc : cl + 1 ≤ R.cells) (hl : sl + cap ≤ R.slots)
    (k : ∀ h' cA, Ext h h' → Arv Z h' h.size cA (newarray.typeOf aty) n [] (defaultValue (newarray.typeOf aty)) → Run Z EL nI K Q (h.size :: W) h' (cl + 1) (sl + cap) (pc + 2) L (.ref h.size :: rest)) : Run Z EL nI K Q W h cl sl pc L (.int n :: rest) := by
  obtain ⟨hx, rfl, rfl, rfl, rfl, -⟩ := id hK
  refine Run.grow hK (P := fun h' => ∃ cA, Arv Z h' h.size cA (newarray.typeOf aty) n [] (defaultValue (newarray.typeOf aty))) (fun T vm0 locs X hZ hown e => ?_) (fun h' E ⟨cA, P⟩ => k h' cA E P)
  obtain ⟨T', h', cA, X', e', E', A', st⟩ := newP X hx hZ w e (g := mkF K.m pc L (.int n :: rest)) rfl hd rfl hn hcap hb hc hl
  exact ⟨T', h', X', e', E', A'.lt, ⟨cA, Arv.new A' hn⟩, st⟩
theorem Run.getf (hK : Ok Z EL a0 l own nm bytes ml ret R K) {R0 O n d host : String} (w : (Jvm.Cond.fieldLink own index R0 n d).before a0 Z = true ∨ (Jvm.Cond.fieldLinkNest own index R0 n d host).before a0 Z = true) (via : Via Z R0 O n d) {v : Value} (F : Fld Z h a O n d v) (hd : decode bytes pc = .ok (.getfield index, 3))
    (k : Run Z EL nI K Q W h cl sl (pc + 3) L (v :: rest)) : Run Z EL nI K Q W h cl sl pc L (.ref a :: rest) := by
  obtain ⟨hx, rfl, rfl, rfl, rfl, -⟩ := id hK
  refine Run.same hK (fun T vm0 locs X hZ hown e => ?_) k
  exact getF X hx hZ hown w via e F (g := mkF K.m pc L (.ref a :: rest)) rfl rfl hd
theorem Run.gets (hK : Ok Z EL a0 l own nm bytes ml ret R K) {R0 O n d : String} (w : (Jvm.Cond.fieldLink own index R0 n d).before a0 Z = true) (via : Via Z R0 O n d) {v : Value} (F : Sta Z h O n d v) (hd : decode bytes pc = .ok (.getstatic index, 3))
    (k : Run Z EL nI K Q W h cl sl (pc + 3) L (v :: S)) : Run Z EL nI K Q W h cl sl pc L S := by
  obtain ⟨hx, rfl, rfl, rfl, rfl, -⟩ := id hK
  refine Run.same hK (fun T vm0 locs X hZ hown e => ?_) k
  exact getS (host := "") X hx hZ hown w via e F (g := mkF K.m pc L S) rfl hd
theorem Run.putf (hK : Ok Z EL a0 l own nm bytes ml ret R K) {R0 O n d host : String} {kk : Nat} (w : (Jvm.Cond.fieldLink own index R0 n d).before a0 Z = true ∨ (Jvm.Cond.fieldLinkNest own index R0 n d host).before a0 Z = true) (via : Via Z R0 O n d) {v old : Value} (F : Fld Z h a O n d old) (E : Exa Z h a C)
    (Lf : (Jvm.Cond.lays C O n d).before a0 Z = true ∨ ((Jvm.Cond.laysFinal C O n d).before a0 Z = true ∧ own = O ∧ nm = "<init>")) (wi : (Jvm.Cond.instantiable C kk).before a0 Z = true) (hty : parseFieldDescriptor d = some ty) (hn : narrow ty v = v) (hf : fits ty v = true) (ha : Z.heap.size ≤ a) (hs : Sf Z EL W h a) (hd : decode bytes pc = .ok (.putfield index, 3))
    (k : ∀ h', Wr h h' a (Jvm.RoadKit.slotOf Z O n d) v → Run Z EL nI K Q W h' cl sl (pc + 3) L rest) : Run Z EL nI K Q W h cl sl pc L (v :: .ref a :: rest) := by
  obtain ⟨hx, rfl, rfl, rfl, rfl, -, -, hnm, -⟩ := id hK
  refine Run.write hK ha hs (fun T vm0 locs X hZ hown e => ?_) k
  exact putF X hx hZ hown w via e F E (Lf.imp id fun q => ⟨q.1, q.2.1, hnm.trans q.2.2⟩) wi hty hn hf (g := mkF K.m pc L (v :: .ref a :: rest)) rfl rfl hd
theorem Run.initobj (hK : Ok Z EL a0 l own nm bytes ml ret R K) (w1 : (Jvm.Cond.methodLink own index Lib.objectInit).before a0 Z = true) (w2 : (Jvm.Cond.instanceMethod Lib.objectInit).before a0 Z = true) (w3 : (Jvm.Cond.code Lib.objectInit ⟨#[0xb1]⟩ 1 none).before a0 Z = true) (hsz : L.size = ml) (hd : decode bytes pc = .ok (.invokespecial index, 3))
    (hf : 1 ≤ R.frames) {Wt : Nat} (hW : (rest.map fun v => v.category).sum ≤ Wt) (hl : Wt + 12 ≤ R.locals) (k : Run Z EL nI K Q W h cl sl (pc + 3) L rest) : Run Z EL nI K Q W h cl sl pc L (.ref a :: rest) := by
  obtain ⟨hx, rfl, rfl, rfl, rfl, -⟩ := id hK
  refine Run.same hK (fun T vm0 locs X hZ hown e => ?_) k
  exact initO X hx hZ hown w1 w2 w3 e (g := mkF K.m pc L (.ref a :: rest)) rfl hsz rfl hd hf (W := Wt) (by show 2 * 0 + _ ≤ _; omega) hl
theorem Run.ldci (hK : Ok Z EL a0 l own nm bytes ml ret R K) {v : Int32} (w : (Jvm.Cond.constant own index v).before a0 Z = true) (hd : decode bytes pc = .ok (.ldc index, 2)) (k : Run Z EL nI K Q W h cl sl (pc + 2) L (.int v :: S)) : Run Z EL nI K Q W h cl sl pc L S := by
  obtain ⟨hx, rfl, rfl, rfl, rfl, -⟩ := id hK
  refine Run.same hK (fun T vm0 locs X hZ hown e => ⟨T, X, e, ?_⟩) k
  exact X.ldcInt hx hown (mvT hZ w) (g := mkF K.m pc L S) rfl hd
theorem Run.ldcl (hK : Ok Z EL a0 l own nm bytes ml ret R K) {v : Int64} (w : (Jvm.Cond.constantLong own index v).before a0 Z = true) (hd : decode bytes pc = .ok (.ldc2_w index, 3)) (k : Run Z EL nI K Q W h cl sl (pc + 3) L (.long v :: S)) : Run Z EL nI K Q W h cl sl pc L S := by
  obtain ⟨hx, rfl, rfl, rfl, rfl, -⟩ := id hK
  refine Run.same hK (fun T vm0 locs X hZ hown e => ⟨T, X, e, ?_⟩) k
  exact X.ldc2Long hx hown (mvT hZ w) (g := mkF K.m pc L S) rfl hd
theorem Run.alen (hK : Ok Z EL a0 l own nm bytes ml ret R K) {k0 : ClassId} {z : Int32} {vs : List Value} {dv : Value} (A : Arv Z h a k0 ty z vs dv) (hd : decode bytes pc = .ok (.arraylength, 1)) (k : Run Z EL nI K Q W h cl sl (pc + 1) L (.int z :: rest)) : Run Z EL nI K Q W h cl sl pc L (.ref a :: rest) := by
  obtain ⟨hx, rfl, rfl, rfl, rfl, -⟩ := id hK
  obtain ⟨c0, A1, -, A3, A4, -⟩ := A
  refine Run.same hK (fun T vm0 locs X hZ hown e => ⟨T, X, e, fun t st => ?_⟩) k
  refine X.arraylength hx (by rw [e]; exact A1.1) (State.isArrayOf_alike hZ.alike A1.2.1) (g := mkF K.m pc L (.ref a :: rest)) rfl rfl hd _ ?_
  rw [len_of A3 A4]; exact st
/-- what lies at a place of an array -/
theorem arv_at {k0 : ClassId} {z : Int32} {vs : List Value} {dv : Value} (A : Arv Z h a k0 ty z vs dv) {j : Int32} (hj : ¬ j < 0 ∧ j < z) : ∃ c : Cell, Arr Z h a c ty ∧ ¬ (j < 0 ∨ c.slots.size ≤ j.toNatClampNeg) ∧ c.slots[j.toNatClampNeg]? = some (vs.getD j.toNatClampNeg dv) := by
  obtain ⟨c0, A1, -, A3, A4, A5, -⟩ := A
  have hin := inb_of A3 hj
  exact ⟨c0, A1, hin, A5 _ (Nat.lt_of_not_le fun q => hin (Or.inr q))⟩
theorem Run.ald (hK : Ok Z EL a0 l own nm bytes ml ret R K) {k0 : ClassId} {z : Int32} {vs : List Value} {dv v : Value} {j : Int32} {i : Instr} (A : Arv Z h a k0 ty z vs dv) (hi : (i = .caload ∧ ty = .char) ∨ (i = .iaload ∧ ty = .int) ∨ (i = .baload ∧ ty = .byte) ∨ (i = .laload ∧ ty = .long)) (hj : ¬ j < 0 ∧ j < z) (hv : vs.getD j.toNatClampNeg dv = v) (hd : decode bytes pc = .ok (i, 1))
    (k : Run Z EL nI K Q W h cl sl (pc + 1) L (v :: rest)) : Run Z EL nI K Q W h cl sl pc L (.int j :: .ref a :: rest) := by
  obtain ⟨hx, rfl, rfl, rfl, rfl, -⟩ := id hK
  obtain ⟨c0, A1, hin, hat⟩ := arv_at A hj
  rw [hv] at hat
  refine Run.same hK (fun T vm0 locs X hZ hown e => ⟨T, X, e, fun t st => ?_⟩) k
  have q1 : T.heap[a]? = some c0 := by rw [e]; exact A1.1
  have q2 := State.isArrayOf_alike hZ.alike A1.2.1
  rcases hi with ⟨rfl, rfl⟩ | ⟨rfl, rfl⟩ | ⟨rfl, rfl⟩ | ⟨rfl, rfl⟩
  · exact X.caload hx q1 q2 A1.2.2 hin hat (g := mkF K.m pc L (.int j :: .ref a :: rest)) rfl rfl hd _ st
  · exact X.iaload hx q1 q2 A1.2.2 hin hat (g := mkF K.m pc L (.int j :: .ref a :: rest)) rfl rfl hd _ st
  · exact X.baloadBytes hx q1 q2 A1.2.2 hin hat (g := mkF K.m pc L (.int j :: .ref a :: rest)) rfl rfl hd _ st
  · exact X.laload hx q1 q2 A1.2.2 hin hat (g := mkF K.m pc L (.int j :: .ref a :: rest)) rfl rfl hd _ st
theorem Run.aald (hK : Ok Z EL a0 l own nm bytes ml ret R K) {c0 : Cell} {j : Int32} {v : Value} (A : Arr Z h a c0 ty) (hty : ty.isReference = true) (hin : ¬ (j < 0 ∨ c0.slots.size ≤ j.toNatClampNeg)) (hat : c0.slots[j.toNatClampNeg]? = some v) (hd : decode bytes pc = .ok (.aaload, 1))
    (k : Run Z EL nI K Q W h cl sl (pc + 1) L (v :: rest)) : Run Z EL nI K Q W h cl sl pc L (.int j :: .ref a :: rest) := by
  obtain ⟨hx, rfl, rfl, rfl, rfl, -⟩ := id hK
  refine Run.same hK (fun T vm0 locs X hZ hown e => ⟨T, X, e, fun t st => ?_⟩) k
  exact X.aaload hx (by rw [e]; exact A.1) (State.isArrayOf_alike hZ.alike A.2.1) hty A.2.2 hin hat (g := mkF K.m pc L (.int j :: .ref a :: rest)) rfl rfl hd _ st
/-- an array's value list, a place written: the list is padded where it was short -/
def setv (vs : List Value) (n i : Nat) (dv v : Value) : List Value := (vs ++ List.replicate (n - vs.length) dv).set i v
theorem arv_set {k0 : ClassId} {z : Int32} {vs : List Value} {dv v : Value} (A : Arv Z h a k0 ty z vs dv) {j : Int32} (hj : ¬ j < 0 ∧ j < z) (hv : fits ty v = true) {h' : Heap} (Wt : Wr h h' a j.toNatClampNeg v) : Arv Z h' a k0 ty z (setv vs z.toNatClampNeg j.toNatClampNeg dv v) dv := by
  obtain ⟨c0, A1, A2, A3, A4, A5, A6⟩ := A.pad (pad_rep vs dv (z.toNatClampNeg - vs.length))
  have hin := inb_of A3 hj
  have hlt : j.toNatClampNeg < z.toNatClampNeg := by rw [← A3]; exact Nat.lt_of_not_le fun q => hin (Or.inr q)
  refine Arv.set A1 A2 A3 A4 A5 A6 hv Wt _ rfl ?_
  simp only [List.length_append, List.length_replicate]; omega
theorem Run.cst (hK : Ok Z EL a0 l own nm bytes ml ret R K) {k0 : ClassId} {z : Int32} {vs : List Value} {dv : Value} {j x : Int32} (A : Arv Z h a k0 .char z vs dv) (hj : ¬ j < 0 ∧ j < z) (ha : Z.heap.size ≤ a) (hd : decode bytes pc = .ok (.castore, 1))
    (k : ∀ h', Wr h h' a j.toNatClampNeg (.int (nar .char x)) → Arv Z h' a k0 .char z (setv vs z.toNatClampNeg j.toNatClampNeg dv (.int (nar .char x))) dv → Run Z EL nI K Q W h' cl sl (pc + 1) L rest) : Run Z EL nI K Q W h cl sl pc L (.int x :: .int j :: .ref a :: rest) := by
  obtain ⟨hx, rfl, rfl, rfl, rfl, -⟩ := id hK
  obtain ⟨c0, A1, hin, hat⟩ := arv_at A hj
  refine Run.write hK ha (sfA A (by decide)) (fun T vm0 locs X hZ hown e => ?_) (fun h' Wt => k h' Wt (arv_set A hj (fits_nar_char x) Wt))
  exact stC X hx hZ e A1 hin (g := mkF K.m pc L (.int x :: .int j :: .ref a :: rest)) rfl rfl hd
theorem Run.ist (hK : Ok Z EL a0 l own nm bytes ml ret R K) {k0 : ClassId} {z : Int32} {vs : List Value} {dv : Value} {j x : Int32} (A : Arv Z h a k0 .int z vs dv) (hj : ¬ j < 0 ∧ j < z) (ha : Z.heap.size ≤ a) (hd : decode bytes pc = .ok (.iastore, 1))
    (k : ∀ h', Wr h h' a j.toNatClampNeg (.int x) → Arv Z h' a k0 .int z (setv vs z.toNatClampNeg j.toNatClampNeg dv (.int x)) dv → Run Z EL nI K Q W h' cl sl (pc + 1) L rest) : Run Z EL nI K Q W h cl sl pc L (.int x :: .int j :: .ref a :: rest) := by
  obtain ⟨hx, rfl, rfl, rfl, rfl, -⟩ := id hK
  obtain ⟨c0, A1, hin, hat⟩ := arv_at A hj
  refine Run.write hK ha (sfA A (by decide)) (fun T vm0 locs X hZ hown e => ?_) (fun h' Wt => k h' Wt (arv_set A hj rfl Wt))
  exact stI X hx hZ e A1 hin (g := mkF K.m pc L (.int x :: .int j :: .ref a :: rest)) rfl rfl hd
theorem Run.lst (hK : Ok Z EL a0 l own nm bytes ml ret R K) {k0 : ClassId} {z : Int32} {vs : List Value} {dv : Value} {j : Int32} {x : Int64} (A : Arv Z h a k0 .long z vs dv) (hj : ¬ j < 0 ∧ j < z) (ha : Z.heap.size ≤ a) (hd : decode bytes pc = .ok (.lastore, 1))
    (k : ∀ h', Wr h h' a j.toNatClampNeg (.long x) → Arv Z h' a k0 .long z (setv vs z.toNatClampNeg j.toNatClampNeg dv (.long x)) dv → Run Z EL nI K Q W h' cl sl (pc + 1) L rest) : Run Z EL nI K Q W h cl sl pc L (.long x :: .int j :: .ref a :: rest) := by
  obtain ⟨hx, rfl, rfl, rfl, rfl, -⟩ := id hK
  obtain ⟨c0, A1, hin, hat⟩ := arv_at A hj
  refine Run.write hK ha (sfA A (by decide)) (fun T vm0 locs X hZ hown e => ?_) (fun h' Wt => k h' Wt (arv_set A hj rfl Wt))
  exact stJ X hx hZ e A1 hin (g := mkF K.m pc L (.long x :: .int j :: .ref a :: rest)) rfl rfl hd
theorem Run.bst (hK : Ok Z EL a0 l own nm bytes ml ret R K) {k0 : ClassId} {z : Int32} {vs : List Value} {dv : Value} {j x : Int32} (A : Arv Z h a k0 .byte z vs dv) (hj : ¬ j < 0 ∧ j < z) (ha : Z.heap.size ≤ a) (hs : Sf Z EL W h a) (hd : decode bytes pc = .ok (.bastore, 1))
    (k : ∀ h', Wr h h' a j.toNatClampNeg (.int (nar .byte x)) → Arv Z h' a k0 .byte z (setv vs z.toNatClampNeg j.toNatClampNeg dv (.int (nar .byte x))) dv → Run Z EL nI K Q W h' cl sl (pc + 1) L rest) : Run Z EL nI K Q W h cl sl pc L (.int x :: .int j :: .ref a :: rest) := by
  obtain ⟨hx, rfl, rfl, rfl, rfl, -⟩ := id hK
  obtain ⟨c0, A1, hin, hat⟩ := arv_at A hj
  refine Run.write hK ha hs (fun T vm0 locs X hZ hown e => ?_) (fun h' Wt => k h' Wt (arv_set A hj (fits_nar_byte x) Wt))
  exact stB X hx hZ e A1 hin (g := mkF K.m pc L (.int x :: .int j :: .ref a :: rest)) rfl rfl hd
/-- System.arraycopy between two arrays of one primitive kind -/
theorem Run.cpy (hK : Ok Z EL a0 l own nm bytes ml ret R K) (w1 : (Jvm.Cond.methodLink own index Jvm.Stand.acN).before a0 Z = true) (w2 : (Jvm.Cond.native Jvm.Stand.acN).before a0 Z = true) (w3 : (Jvm.Cond.static Jvm.Stand.acN).before a0 Z = true) (w4 : (Jvm.Cond.initialized "java/lang/System").before a0 Z = true)
    {b : Addr} {k1 k2 : ClassId} {z z' sp dp nn : Int32} {vs vd us : List Value} {dv dd : Value} (A : Arv Z h a k1 ty z vs dv) (B : Arv Z h b k2 ty z' vd dd) (hty : refKind ty = false) (h1 : ¬ sp < 0) (h2 : ¬ dp < 0) (h3 : ¬ nn < 0) (h4 : sp.toNatClampNeg + nn.toNatClampNeg ≤ z.toNatClampNeg) (h5 : dp.toNatClampNeg + nn.toNatClampNeg ≤ z'.toNatClampNeg)
    (hus : us = (List.range nn.toNatClampNeg).map fun i => vs.getD (sp.toNatClampNeg + i) dv) (hl : dp.toNatClampNeg + nn.toNatClampNeg ≤ vd.length) (ge : Z.heap.size ≤ b) (hs : Sf Z EL W h b) (hsz : L.size = ml) (hd : decode bytes pc = .ok (.invokestatic index, 3)) (hf : 1 ≤ R.frames) {Wt : Nat} (hW : (rest.map fun v => v.category).sum ≤ Wt) (hlo : Wt + 18 ≤ R.locals)
    (k : ∀ h', Keep h h' [b] → Arv Z h' b k2 ty z' (vd.take dp.toNatClampNeg ++ us ++ vd.drop (dp.toNatClampNeg + nn.toNatClampNeg)) dd → Run Z EL nI K Q W h' cl sl (pc + 3) L rest) : Run Z EL nI K Q W h cl sl pc L (.int nn :: .int dp :: .ref b :: .int sp :: .ref a :: rest) := fun T X => by
  obtain ⟨vm0, k0, locs, X1, X2, X3, X4, X5, X6, X7, X8, X9, X10⟩ := X
  have hown := hK.fc X2
  obtain ⟨hx, rfl, rfl, rfl, rfl, -⟩ := id hK
  obtain ⟨T', h', L', Y, eY, N, Kp, B', st⟩ := cpA X1 hx (show Z.Warmed39 (K.s.setVm vm0).vm from X4) hown w1 w2 w3 w4 X7 A B (Or.inl ⟨rfl, hty⟩) h1 h2 h3 h4 h5 hus hl X8 ge (g := mkF K.m pc L (.int nn :: .int dp :: .ref b :: .int sp :: .ref a :: rest)) rfl hsz rfl hd hf (W := Wt) (by show 2 * 0 + _ ≤ _; omega) hlo
  have hws : ∀ x ∈ [b], Safe Z EL vm0 h x := fun x hx => by cases List.mem_singleton.mp hx; exact hs vm0 X4 X6
  have C := CHr.keep Kp hws X5.1
  obtain ⟨s2, v, Lo, g, r⟩ := k h' Kp B' T' ⟨vm0, k0, L', Y, X2, Nat.le_trans X3 Kp.1, X4, X5.trans C, fun x hx => ⟨Nat.lt_of_lt_of_le (X6 x hx).1 Kp.1, C.safe (X6 x hx).1 (X6 x hx).2⟩, eY, N, X9, (Old.keep (Z := Z) (n0 := Z.heap.size) ⟨rfl, X10⟩ Kp (fun x hx => by cases List.mem_singleton.mp hx; exact ge)).2⟩
  exact ⟨s2, v, Lo, st _ g, r⟩
/-- ldc of a String constant of EL -/
theorem Run.ldcs (hK : Ok Z EL a0 l own nm bytes ml ret R K) (hnI : nI = false) {text : String} (w : (Jvm.Cond.stringLink own index text).before a0 Z = true) (wS : ∀ d ∈ Bundle.stringAtoms, d.before a0 Z = true) (hmem : (own, index) ∈ EL)
    {vs : List Value} {z : Int32} (ht : (∀ c ∈ text.toList, c.toNat < 256) ∧ text.toList.map (fun c => Value.int (Jvm.Lit.byteI c.toNat.toUInt16)) = vs) (hz : ¬ z < 0) (hzl : z.toNatClampNeg = vs.length) (hd : decode bytes pc = .ok (.ldc index, 2)) {n : Nat} (hn : 4 * text.toList.length ≤ n) (hbig : n ≤ 536870912) (hc : cl + 2 ≤ R.cells) (hl : sl + (n + 4) ≤ R.slots)
    (k : ∀ (h' : Heap) (x b : Addr) (kb : ClassId), Ext h h' → Exa Z h' x "java/lang/String" → Fld Z h' x "java/lang/String" "coder" "B" (.int 0) → Fld Z h' x "java/lang/String" "value" "[B" (.ref b) → Arv Z h' b kb .byte z vs (.int 0) → Run Z EL nI K Q W h' (cl + 2) (sl + (n + 4)) (pc + 2) L (.ref x :: S)) : Run Z EL nI K Q W h cl sl pc L S := fun T X => by
  obtain ⟨vm0, k0, locs, X1, X2, X3, X4, X5, X6, X7, X8, X9, X10⟩ := X
  have hown := hK.fc X2
  obtain ⟨hx, rfl, rfl, rfl, rfl, -, -, -, -, hEL⟩ := id hK
  obtain ⟨x, T', h', k1, b, kb, Y, eY, E, hS, hk1, hZ', -, f1, f2, f3, f4, f5, f6, hC, -, -, st⟩ := ldcCH X1 hx X4 hown w wS X7 X2 X3 hEL hmem X5.1 ht hz hzl (g := mkF K.m pc L S) rfl hd hn hbig hc hl
  obtain ⟨s2, v', Lo, g, r⟩ := k h' x b kb E f1 f2 f3 f4 T' ⟨T'.vm, k1, locs, Y, hS, hk1, hZ', X5.trans hC, fun y hy => ⟨Nat.lt_of_lt_of_le (X6 y hy).1 E.1, hC.safe (X6 y hy).1 (X6 y hy).2⟩, eY, X8, fun q => by (rw [hnI] at q; cases q), Nat.le_trans X10.1 E.1, fun x c q => E.2 x c (X10.2 x c q)⟩
  exact ⟨s2, v', Lo, st _ g, r⟩
/-- the ends -/
theorem Run.ends (hK : Ok Z EL a0 l own nm bytes ml ret R K) {v : Option Value} (hv : ret = none → v = none) (hc : cl ≤ R.cells) (hs : sl ≤ R.slots)
    (f : ∀ T vm0 locs fs, Stand K.p K.l K.e K.R (K.s.setVm vm0) K.m K.as K.bl K.me K.c T locs cl sl → (∀ (f : JFrame) (acts : List Action), f.method = K.m → f.locked = none → f.entered = [] → (doReturn K.e (T.setTop f) acts v).1 = T.setFrames fs) → Steps K.p.tables K.e K.bl (T.setTop (mkF K.m pc L S)) (T.setFrames fs)) (hQ : Q v h) : Run Z EL nI K Q W h cl sl pc L S := fun T X => by
  obtain ⟨vm0, k0, locs, X1, X2, X3, X4, X5, X6, X7, X8, X9, X10⟩ := X
  obtain ⟨hx, -, rfl, -, -, rfl, hlk, -, -, hEL⟩ := id hK
  obtain ⟨fs, hr, hrun, hended, hW⟩ := X1.leaveW X2 (by rw [X7]; exact X3) (v := v) hv hlk
  have hh : (T.setFrames fs).heap = h := X7
  have B := CHv.at X1 X4 hEL X5.1
  obtain ⟨w1, w2, w3, w4⟩ := hW
  refine ⟨T.setFrames fs, v, locs, f T vm0 locs fs X1 hr, hrun, hended, by rw [hh]; exact hQ, X8, by rw [hh]; exact X5.trans B, ⟨w1, w2, w3, w4.mono hc hs⟩, fun q => State.WarmedH.trans (X9 q) X1.warmed, by rw [hh]; exact X10⟩
theorem Run.retw (hK : Ok Z EL a0 l own nm bytes ml (some ty) R K) {w : Value} {i : Instr} (hn : narrow ty w = w)
    (hi : (i = .ireturn ∧ (ty = .int ∨ ty = .boolean ∨ ty = .byte ∨ ty = .char ∨ ty = .short) ∧ ∃ z, w = .int z) ∨ (i = .lreturn ∧ ty = .long ∧ ∃ z, w = .long z) ∨ (i = .dreturn ∧ ty = .double ∧ ∃ z, w = .double z) ∨ (i = .freturn ∧ ty = .float ∧ ∃ z, w = .float z) ∨ (i = .areturn ∧ ty.isReference = true ∧ w.isRef = true))
    (hd : decode bytes pc = .ok (i, 1)) (hc : cl ≤ R.cells) (hs : sl ≤ R.slots) (hQ : Q (some w) h) : Run Z EL nI K Q W h cl sl pc L (w :: rest) :=
  Run.ends hK (v := some w) (fun q => by cases q) hc hs (fun T vm0 locs fs X hr => by
    obtain ⟨hx, rfl, rfl, rfl, rfl, hrt, -⟩ := id hK
    exact retOut X hx hrt hn hi hd hr) hQ
theorem Run.retv (hK : Ok Z EL a0 l own nm bytes ml none R K) (hd : decode bytes pc = .ok (.return_, 1)) (hc : cl ≤ R.cells) (hs : sl ≤ R.slots) (hQ : Q none h) : Run Z EL nI K Q W h cl sl pc L [] :=
  Run.ends hK (v := none) (fun _ => rfl) hc hs (fun T vm0 locs fs X hr => by
    obtain ⟨hx, rfl, rfl, rfl, rfl, hrt, -⟩ := id hK
    exact X.returnOut hx hrt hd hr) hQ
end Single
/-! plain steps, by evaluation -/
abbrev Fr3 : Type := Nat × Array Slot × List Value
def ldI (len n pc : Nat) (L : Array Slot) (S : List Value) (k : Nat) : Option Fr3 := if len = n then (match L[k]? with | some (.val (.int v)) => some (pc + n, L, .int v :: S) | _ => none) else none
def ldJ (len n pc : Nat) (L : Array Slot) (S : List Value) (k : Nat) : Option Fr3 := if len = n then (match L[k]? with | some (.val (.long v)) => some (pc + n, L, .long v :: S) | _ => none) else none
def ldA (len n pc : Nat) (L : Array Slot) (S : List Value) (k : Nat) : Option Fr3 := if len = n then (match L[k]? with | some (.val (.ref v)) => some (pc + n, L, .ref v :: S) | some (.val .null) => some (pc + n, L, .null :: S) | _ => none) else none
def stI' (len n pc : Nat) (L : Array Slot) (S : List Value) (k : Nat) : Option Fr3 := if len = n then (match S with | .int v :: r => (match storeLocals L k (.int v) with | some L' => some (pc + n, L', r) | none => none) | _ => none) else none
def stJ' (len n pc : Nat) (L : Array Slot) (S : List Value) (k : Nat) : Option Fr3 := if len = n then (match S with | .long v :: r => (match storeLocals L k (.long v) with | some L' => some (pc + n, L', r) | none => none) | _ => none) else none
def stA' (len n pc : Nat) (L : Array Slot) (S : List Value) (k : Nat) : Option Fr3 := if len = n then (match S with | .ref v :: r => (match storeLocals L k (.ref v) with | some L' => some (pc + n, L', r) | none => none) | .null :: r => (match storeLocals L k .null with | some L' => some (pc + n, L', r) | none => none) | _ => none) else none
def cst (len n pc : Nat) (L : Array Slot) (S : List Value) (v : Value) : Option Fr3 := if len = n then some (pc + n, L, v :: S) else none
def bI (len pc : Nat) (L : Array Slot) (S : List Value) (f : Int32 → Int32 → Int32) : Option Fr3 := if len = 1 then (match S with | .int y :: .int x :: r => some (pc + 1, L, .int (f x y) :: r) | _ => none) else none
def bI0 (len pc : Nat) (L : Array Slot) (S : List Value) (f : Int32 → Int32 → Int32) : Option Fr3 := if len = 1 then (match S with | .int y :: .int x :: r => if y = 0 then none else some (pc + 1, L, .int (f x y) :: r) | _ => none) else none
def bJ (len pc : Nat) (L : Array Slot) (S : List Value) (f : Int64 → Int64 → Int64) : Option Fr3 := if len = 1 then (match S with | .long y :: .long x :: r => some (pc + 1, L, .long (f x y) :: r) | _ => none) else none
def bJ0 (len pc : Nat) (L : Array Slot) (S : List Value) (f : Int64 → Int64 → Int64) : Option Fr3 := if len = 1 then (match S with | .long y :: .long x :: r => if y = 0 then none else some (pc + 1, L, .long (f x y) :: r) | _ => none) else none
def bS (len pc : Nat) (L : Array Slot) (S : List Value) (f : Int64 → Int32 → Int64) : Option Fr3 := if len = 1 then (match S with | .int y :: .long x :: r => some (pc + 1, L, .long (f x y) :: r) | _ => none) else none
def uI (len pc : Nat) (L : Array Slot) (S : List Value) (f : Int32 → Value) : Option Fr3 := if len = 1 then (match S with | .int x :: r => some (pc + 1, L, f x :: r) | _ => none) else none
def uJ (len pc : Nat) (L : Array Slot) (S : List Value) (f : Int64 → Value) : Option Fr3 := if len = 1 then (match S with | .long x :: r => some (pc + 1, L, f x :: r) | _ => none) else none
def cJ (len pc : Nat) (L : Array Slot) (S : List Value) : Option Fr3 := if len = 1 then (match S with | .long y :: .long x :: r => some (pc + 1, L, .int (XT.cmpL x y) :: r) | _ => none) else none
def one? : Value → Bool
  | .int _ => true
  | .ref _ => true
  | .null => true
  | _ => false
theorem one_cat {v : Value} (h : one? v = true) : v.category = 1 := by cases v <;> first | rfl | cases h
def dp (len pc : Nat) (L : Array Slot) (S : List Value) : Option Fr3 := if len = 1 then (match S with | x :: r => if one? x = true then some (pc + 1, L, x :: x :: r) else none | _ => none) else none
def dpx (len pc : Nat) (L : Array Slot) (S : List Value) : Option Fr3 := if len = 1 then (match S with | x :: y :: r => if one? x = true then (if one? y = true then some (pc + 1, L, x :: y :: x :: r) else none) else none | _ => none) else none
def dp2 (len pc : Nat) (L : Array Slot) (S : List Value) : Option Fr3 := if len = 1 then (match S with | x :: y :: r => if one? x = true then (if one? y = true then some (pc + 1, L, x :: y :: x :: y :: r) else none) else none | _ => none) else none
def pp (len pc : Nat) (L : Array Slot) (S : List Value) : Option Fr3 := if len = 1 then (match S with | x :: r => if one? x = true then some (pc + 1, L, r) else none | _ => none) else none
def inc (len pc : Nat) (L : Array Slot) (S : List Value) (k : Nat) (c : Int) : Option Fr3 := if len = 3 then (match L[k]? with | some (.val (.int v)) => (match storeLocals L k (.int (v + Int32.ofInt c)) with | some L' => some (pc + 3, L', S) | none => none) | _ => none) else none
def jmp (len pc : Nat) (L : Array Slot) (S : List Value) (o : Int) : Option Fr3 := if len = 3 then (if 0 ≤ (pc : Int) + o then some (((pc : Int) + o).toNat, L, S) else none) else none
def stp (i : Instr) (len pc : Nat) (L : Array Slot) (S : List Value) : Option Fr3 :=
  match i with
  | .iload_n k => ldI len 1 pc L S k.val
  | .iload k => ldI len 2 pc L S k
  | .lload_n k => ldJ len 1 pc L S k.val
  | .lload k => ldJ len 2 pc L S k
  | .aload_n k => ldA len 1 pc L S k.val
  | .aload k => ldA len 2 pc L S k
  | .istore_n k => stI' len 1 pc L S k.val
  | .istore k => stI' len 2 pc L S k
  | .lstore_n k => stJ' len 1 pc L S k.val
  | .lstore k => stJ' len 2 pc L S k
  | .astore_n k => stA' len 1 pc L S k.val
  | .astore k => stA' len 2 pc L S k
  | .iconst c => cst len 1 pc L S (.int (Int32.ofInt c))
  | .bipush c => cst len 2 pc L S (.int (Int8.ofInt c).toInt32)
  | .sipush c => cst len 3 pc L S (.int (Int16.ofInt c).toInt32)
  | .aconst_null => cst len 1 pc L S .null
  | .lconst k => cst len 1 pc L S (.long (Int64.ofNat k))
  | .iadd => bI len pc L S (· + ·)
  | .isub => bI len pc L S (· - ·)
  | .imul => bI len pc L S (· * ·)
  | .iand => bI len pc L S (· &&& ·)
  | .ior => bI len pc L S (· ||| ·)
  | .ixor => bI len pc L S (· ^^^ ·)
  | .ishl => bI len pc L S (fun x y => x <<< (y &&& 31))
  | .ishr => bI len pc L S (fun x y => x >>> (y &&& 31))
  | .iushr => bI len pc L S XT.ushr
  | .irem => bI0 len pc L S (· % ·)
  | .idiv => bI0 len pc L S (· / ·)
  | .ineg => uI len pc L S (fun x => .int (-x))
  | .ladd => bJ len pc L S (· + ·)
  | .lsub => bJ len pc L S (· - ·)
  | .land => bJ len pc L S (· &&& ·)
  | .lor => bJ len pc L S (· ||| ·)
  | .lushr => bS len pc L S XT.ushrL
  | .lshl => bS len pc L S (fun x y => x <<< (y.toInt64 &&& 63))
  | .lrem => bJ0 len pc L S (fun x y => x - (x / y) * y)
  | .i2l => uI len pc L S (fun x => .long x.toInt64)
  | .l2i => uJ len pc L S (fun x => .int x.toInt32)
  | .i2b => uI len pc L S (fun x => .int x.toInt8.toInt32)
  | .i2c => uI len pc L S (fun x => .int x.toUInt32.toUInt16.toUInt32.toInt32)
  | .lcmp => cJ len pc L S
  | .dup => dp len pc L S
  | .dup_x1 => dpx len pc L S
  | .dup2 => dp2 len pc L S
  | .pop => pp len pc L S
  | .iinc k c => inc len pc L S k c
  | .goto o => jmp len pc L S o
  | _ => none
def stq : List (Nat × Instr × Nat) → Nat → Array Slot → List Value → Option Fr3
  | [], pc, L, S => some (pc, L, S)
  | (p, i, len) :: r, pc, L, S => if p = pc then (match stp i len pc L S with | none => none | some (pc', L', S') => stq r pc' L' S') else none
section PlainSteps
variable {tb : Tables} [Ours tb] {e : Env} {below : List Frame} {T t : State} {m : MethodId} {c : Code} {pc pc' len : Nat} {L L' : Array Slot} {S S' : List Value} {i : Instr}
theorem ldI_s {n k : Nat} {r : Fr3} (h : ldI len n pc L S k = some r) : len = n ∧ ∃ v, L[k]? = some (.val (.int v)) ∧ r = (pc + n, L, .int v :: S) := by
  unfold ldI at h
  by_cases q : len = n
  · rw [if_pos q] at h
    split at h
    · rename_i v e; cases h; exact ⟨q, v, e, rfl⟩
    · cases h
  · rw [if_neg q] at h; cases h
theorem ldJ_s {n k : Nat} {r : Fr3} (h : ldJ len n pc L S k = some r) : len = n ∧ ∃ v, L[k]? = some (.val (.long v)) ∧ r = (pc + n, L, .long v :: S) := by
  unfold ldJ at h
  by_cases q : len = n
  · rw [if_pos q] at h
    split at h
    · rename_i v e; cases h; exact ⟨q, v, e, rfl⟩
    · cases h
  · rw [if_neg q] at h; cases h
theorem ldA_s {n k : Nat} {r : Fr3} (h : ldA len n pc L S k = some r) : len = n ∧ ∃ v : Value, v.isRef = true ∧ L[k]? = some (.val v) ∧ r = (pc + n, L, v :: S) := by
  unfold ldA at h
  by_cases q : len = n
  · rw [if_pos q] at h
    split at h
    · rename_i v e; cases h; exact ⟨q, _, rfl, e, rfl⟩
    · rename_i e; cases h; exact ⟨q, _, rfl, e, rfl⟩
    · cases h
  · rw [if_neg q] at h; cases h
theorem stI_s {n k : Nat} {r : Fr3} (h : stI' len n pc L S k = some r) : len = n ∧ ∃ v S' L', S = .int v :: S' ∧ storeLocals L k (.int v) = some L' ∧ r = (pc + n, L', S') := by
  unfold stI' at h
  by_cases q : len = n
  · rw [if_pos q] at h
    split at h
    · split at h
      · rename_i e; cases h; exact ⟨q, _, _, _, rfl, e, rfl⟩
      · cases h
    · cases h
  · rw [if_neg q] at h; cases h
theorem stJ_s {n k : Nat} {r : Fr3} (h : stJ' len n pc L S k = some r) : len = n ∧ ∃ v S' L', S = .long v :: S' ∧ storeLocals L k (.long v) = some L' ∧ r = (pc + n, L', S') := by
  unfold stJ' at h
  by_cases q : len = n
  · rw [if_pos q] at h
    split at h
    · split at h
      · rename_i e; cases h; exact ⟨q, _, _, _, rfl, e, rfl⟩
      · cases h
    · cases h
  · rw [if_neg q] at h; cases h
theorem stA_s {n k : Nat} {r : Fr3} (h : stA' len n pc L S k = some r) : len = n ∧ ∃ (v : Value) (S' : List Value) (L' : Array Slot), v.isRef = true ∧ S = v :: S' ∧ storeLocals L k v = some L' ∧ r = (pc + n, L', S') := by
  unfold stA' at h
  by_cases q : len = n
  · rw [if_pos q] at h
    split at h
    · split at h
      · rename_i e; cases h; exact ⟨q, _, _, _, rfl, rfl, e, rfl⟩
      · cases h
    · split at h
      · rename_i e; cases h; exact ⟨q, _, _, _, rfl, rfl, e, rfl⟩
      · cases h
    · cases h
  · rw [if_neg q] at h; cases h
theorem cst_s {n : Nat} {v : Value} {r : Fr3} (h : cst len n pc L S v = some r) : len = n ∧ r = (pc + n, L, v :: S) := by
  unfold cst at h
  by_cases q : len = n
  · rw [if_pos q] at h; cases h; exact ⟨q, rfl⟩
  · rw [if_neg q] at h; cases h
theorem bI_s {f : Int32 → Int32 → Int32} {r : Fr3} (h : bI len pc L S f = some r) : len = 1 ∧ ∃ x y S', S = .int y :: .int x :: S' ∧ r = (pc + 1, L, .int (f x y) :: S') := by
  unfold bI at h
  by_cases q : len = 1
  · rw [if_pos q] at h
    split at h
    · cases h; exact ⟨q, _, _, _, rfl, rfl⟩
    · cases h
  · rw [if_neg q] at h; cases h
theorem bI0_s {f : Int32 → Int32 → Int32} {r : Fr3} (h : bI0 len pc L S f = some r) : len = 1 ∧ ∃ x y S', ¬ y = 0 ∧ S = .int y :: .int x :: S' ∧ r = (pc + 1, L, .int (f x y) :: S') := by
  unfold bI0 at h
  by_cases q : len = 1
  · rw [if_pos q] at h
    split at h
    · split at h
      · cases h
      · rename_i q0; cases h; exact ⟨q, _, _, _, q0, rfl, rfl⟩
    · cases h
  · rw [if_neg q] at h; cases h
theorem bJ_s {f : Int64 → Int64 → Int64} {r : Fr3} (h : bJ len pc L S f = some r) : len = 1 ∧ ∃ x y S', S = .long y :: .long x :: S' ∧ r = (pc + 1, L, .long (f x y) :: S') := by
  unfold bJ at h
  by_cases q : len = 1
  · rw [if_pos q] at h
    split at h
    · cases h; exact ⟨q, _, _, _, rfl, rfl⟩
    · cases h
  · rw [if_neg q] at h; cases h
theorem bJ0_s {f : Int64 → Int64 → Int64} {r : Fr3} (h : bJ0 len pc L S f = some r) : len = 1 ∧ ∃ x y S', ¬ y = 0 ∧ S = .long y :: .long x :: S' ∧ r = (pc + 1, L, .long (f x y) :: S') := by
  unfold bJ0 at h
  by_cases q : len = 1
  · rw [if_pos q] at h
    split at h
    · split at h
      · cases h
      · rename_i q0; cases h; exact ⟨q, _, _, _, q0, rfl, rfl⟩
    · cases h
  · rw [if_neg q] at h; cases h
theorem bS_s {f : Int64 → Int32 → Int64} {r : Fr3} (h : bS len pc L S f = some r) : len = 1 ∧ ∃ x y S', S = .int y :: .long x :: S' ∧ r = (pc + 1, L, .long (f x y) :: S') := by
  unfold bS at h
  by_cases q : len = 1
  · rw [if_pos q] at h
    split at h
    · cases h; exact ⟨q, _, _, _, rfl, rfl⟩
    · cases h
  · rw [if_neg q] at h; cases h
theorem uI_s {f : Int32 → Value} {r : Fr3} (h : uI len pc L S f = some r) : len = 1 ∧ ∃ x S', S = .int x :: S' ∧ r = (pc + 1, L, f x :: S') := by
  unfold uI at h
  by_cases q : len = 1
  · rw [if_pos q] at h
    split at h
    · cases h; exact ⟨q, _, _, rfl, rfl⟩
    · cases h
  · rw [if_neg q] at h; cases h
theorem uJ_s {f : Int64 → Value} {r : Fr3} (h : uJ len pc L S f = some r) : len = 1 ∧ ∃ x S', S = .long x :: S' ∧ r = (pc + 1, L, f x :: S') := by
  unfold uJ at h
  by_cases q : len = 1
  · rw [if_pos q] at h
    split at h
    · cases h; exact ⟨q, _, _, rfl, rfl⟩
    · cases h
  · rw [if_neg q] at h; cases h
theorem cJ_s {r : Fr3} (h : cJ len pc L S = some r) : len = 1 ∧ ∃ x y S', S = .long y :: .long x :: S' ∧ r = (pc + 1, L, .int (XT.cmpL x y) :: S') := by
  unfold cJ at h
  by_cases q : len = 1
  · rw [if_pos q] at h
    split at h
    · cases h; exact ⟨q, _, _, _, rfl, rfl⟩
    · cases h
  · rw [if_neg q] at h; cases h
theorem dp_s {r : Fr3} (h : dp len pc L S = some r) : len = 1 ∧ ∃ x S', one? x = true ∧ S = x :: S' ∧ r = (pc + 1, L, x :: x :: S') := by
  unfold dp at h
  by_cases q : len = 1
  · rw [if_pos q] at h
    split at h
    · split at h
      · rename_i q0; cases h; exact ⟨q, _, _, q0, rfl, rfl⟩
      · cases h
    · cases h
  · rw [if_neg q] at h; cases h
theorem pp_s {r : Fr3} (h : pp len pc L S = some r) : len = 1 ∧ ∃ x S', one? x = true ∧ S = x :: S' ∧ r = (pc + 1, L, S') := by
  unfold pp at h
  by_cases q : len = 1
  · rw [if_pos q] at h
    split at h
    · split at h
      · rename_i q0; cases h; exact ⟨q, _, _, q0, rfl, rfl⟩
      · cases h
    · cases h
  · rw [if_neg q] at h; cases h
theorem dpx_s {r : Fr3} (h : dpx len pc L S = some r) : len = 1 ∧ ∃ x y S', one? x = true ∧ one? y = true ∧ S = x :: y :: S' ∧ r = (pc + 1, L, x :: y :: x :: S') := by
  unfold dpx at h
  by_cases q : len = 1
  · rw [if_pos q] at h
    split at h
    · split at h
      · rename_i q0
        split at h
        · rename_i q1; cases h; exact ⟨q, _, _, _, q0, q1, rfl, rfl⟩
        · cases h
      · cases h
    · cases h
  · rw [if_neg q] at h; cases h
theorem dp2_s {r : Fr3} (h : dp2 len pc L S = some r) : len = 1 ∧ ∃ x y S', one? x = true ∧ one? y = true ∧ S = x :: y :: S' ∧ r = (pc + 1, L, x :: y :: x :: y :: S') := by
  unfold dp2 at h
  by_cases q : len = 1
  · rw [if_pos q] at h
    split at h
    · split at h
      · rename_i q0
        split at h
        · rename_i q1; cases h; exact ⟨q, _, _, _, q0, q1, rfl, rfl⟩
        · cases h
      · cases h
    · cases h
  · rw [if_neg q] at h; cases h
theorem inc_s {k : Nat} {d : Int} {r : Fr3} (h : inc len pc L S k d = some r) : len = 3 ∧ ∃ v L', L[k]? = some (.val (.int v)) ∧ storeLocals L k (.int (v + Int32.ofInt d)) = some L' ∧ r = (pc + 3, L', S) := by
  unfold inc at h
  by_cases q : len = 3
  · rw [if_pos q] at h
    split at h
    · rename_i v e
      split at h
      · rename_i e2; cases h; exact ⟨q, _, _, e, e2, rfl⟩
      · cases h
    · cases h
  · rw [if_neg q] at h; cases h
theorem jmp_s {o : Int} {r : Fr3} (h : jmp len pc L S o = some r) : len = 3 ∧ 0 ≤ (pc : Int) + o ∧ r = (((pc : Int) + o).toNat, L, S) := by
  unfold jmp at h
  by_cases q : len = 3
  · rw [if_pos q] at h
    split at h
    · rename_i q0; cases h; exact ⟨q, q0, rfl⟩
    · cases h
  · rw [if_neg q] at h; cases h
set_option maxHeartbeats 4000000 in
theorem stp_ok (h : At T m c below) (hx : tb.exec = Jvm.exec) (hd : decode c.code pc = .ok (i, len)) (hs : stp i len pc L S = some (pc', L', S')) (st : Steps tb e below (T.setTop (mkF m pc' L' S')) t) : Steps tb e below (T.setTop (mkF m pc L S)) t := by
  unfold stp at hs
  split at hs
  case h_1 => obtain ⟨rfl, v, e1, e2⟩ := ldI_s hs; cases e2; exact XS.iloadN h hx rfl hd e1 st
  case h_2 => obtain ⟨rfl, v, e1, e2⟩ := ldI_s hs; cases e2; exact XS.iload h hx rfl hd e1 st
  case h_3 => obtain ⟨rfl, v, e1, e2⟩ := ldJ_s hs; cases e2; exact XT.lloadN h hx rfl hd e1 st
  case h_4 => obtain ⟨rfl, v, e1, e2⟩ := ldJ_s hs; cases e2; exact XT.lload h hx rfl hd e1 st
  case h_5 => obtain ⟨rfl, v, e0, e1, e2⟩ := ldA_s hs; cases e2; exact XS.aloadN h hx rfl hd e1 e0 st
  case h_6 => obtain ⟨rfl, v, e0, e1, e2⟩ := ldA_s hs; cases e2; exact XS.aload h hx rfl hd e1 e0 st
  case h_7 => obtain ⟨rfl, v, S1, L1, rfl, e1, e2⟩ := stI_s hs; cases e2; exact XS.istoreN h hx rfl hd rfl e1 st
  case h_8 => obtain ⟨rfl, v, S1, L1, rfl, e1, e2⟩ := stI_s hs; cases e2; exact XS.istore h hx rfl hd rfl e1 st
  case h_9 => obtain ⟨rfl, v, S1, L1, rfl, e1, e2⟩ := stJ_s hs; cases e2; exact XT.lstoreN h hx rfl hd rfl e1 st
  case h_10 => obtain ⟨rfl, v, S1, L1, rfl, e1, e2⟩ := stJ_s hs; cases e2; exact XT.lstore h hx rfl hd rfl e1 st
  case h_11 => obtain ⟨rfl, v, S1, L1, e0, rfl, e1, e2⟩ := stA_s hs; cases e2; exact XS.astoreN h hx rfl hd rfl e0 e1 st
  case h_12 => obtain ⟨rfl, v, S1, L1, e0, rfl, e1, e2⟩ := stA_s hs; cases e2; exact XS.astore h hx rfl hd rfl e0 e1 st
  case h_13 => obtain ⟨rfl, e2⟩ := cst_s hs; cases e2; exact XS.iconst h hx rfl hd st
  case h_14 => obtain ⟨rfl, e2⟩ := cst_s hs; cases e2; exact XS.bipush h hx rfl hd st
  case h_15 => obtain ⟨rfl, e2⟩ := cst_s hs; cases e2; exact XS.sipush h hx rfl hd st
  case h_16 => obtain ⟨rfl, e2⟩ := cst_s hs; cases e2; exact XS.aconstNull h hx rfl hd st
  case h_17 => obtain ⟨rfl, e2⟩ := cst_s hs; cases e2; exact XT.lconst h hx rfl hd st
  case h_18 => obtain ⟨rfl, x, y, S1, rfl, e2⟩ := bI_s hs; cases e2; exact XS.iadd h hx rfl hd rfl st
  case h_19 => obtain ⟨rfl, x, y, S1, rfl, e2⟩ := bI_s hs; cases e2; exact XS.isub h hx rfl hd rfl st
  case h_20 => obtain ⟨rfl, x, y, S1, rfl, e2⟩ := bI_s hs; cases e2; exact XS.imul h hx rfl hd rfl st
  case h_21 => obtain ⟨rfl, x, y, S1, rfl, e2⟩ := bI_s hs; cases e2; exact XS.iand h hx rfl hd rfl st
  case h_22 => obtain ⟨rfl, x, y, S1, rfl, e2⟩ := bI_s hs; cases e2; exact XT.ior h hx rfl hd rfl st
  case h_23 => obtain ⟨rfl, x, y, S1, rfl, e2⟩ := bI_s hs; cases e2; exact XT.ixor h hx rfl hd rfl st
  case h_24 => obtain ⟨rfl, x, y, S1, rfl, e2⟩ := bI_s hs; cases e2; exact XT.ishl h hx rfl hd rfl st
  case h_25 => obtain ⟨rfl, x, y, S1, rfl, e2⟩ := bI_s hs; cases e2; exact XT.ishr h hx rfl hd rfl st
  case h_26 => obtain ⟨rfl, x, y, S1, rfl, e2⟩ := bI_s hs; cases e2; exact XT.iushr h hx rfl hd rfl st
  case h_27 => obtain ⟨rfl, x, y, S1, q0, rfl, e2⟩ := bI0_s hs; cases e2; refine XS.irem h hx rfl hd rfl q0 ?_; have q1 : x - x / y * y = x % y := irem_eq_mod x y; rw [q1]; exact st
  case h_28 => obtain ⟨rfl, x, y, S1, q0, rfl, e2⟩ := bI0_s hs; cases e2; exact XS.idiv h hx rfl hd rfl q0 st
  case h_29 => obtain ⟨rfl, x, S1, rfl, e2⟩ := uI_s hs; cases e2; exact XS.ineg h hx rfl hd rfl st
  case h_30 => obtain ⟨rfl, x, y, S1, rfl, e2⟩ := bJ_s hs; cases e2; exact XT.ladd h hx rfl hd rfl st
  case h_31 => obtain ⟨rfl, x, y, S1, rfl, e2⟩ := bJ_s hs; cases e2; exact XT.lsub h hx rfl hd rfl st
  case h_32 => obtain ⟨rfl, x, y, S1, rfl, e2⟩ := bJ_s hs; cases e2; exact XT.land h hx rfl hd rfl st
  case h_33 => obtain ⟨rfl, x, y, S1, rfl, e2⟩ := bJ_s hs; cases e2; exact XT.lor h hx rfl hd rfl st
  case h_34 => obtain ⟨rfl, x, y, S1, rfl, e2⟩ := bS_s hs; cases e2; exact XT.lushr h hx rfl hd rfl st
  case h_35 => obtain ⟨rfl, x, y, S1, rfl, e2⟩ := bS_s hs; cases e2; exact XT.lshl h hx rfl hd rfl st
  case h_36 => obtain ⟨rfl, x, y, S1, q0, rfl, e2⟩ := bJ0_s hs; cases e2; exact XT.lrem h hx rfl hd rfl q0 st
  case h_37 => obtain ⟨rfl, x, S1, rfl, e2⟩ := uI_s hs; cases e2; exact XT.i2l h hx rfl hd rfl st
  case h_38 => obtain ⟨rfl, x, S1, rfl, e2⟩ := uJ_s hs; cases e2; exact XT.l2i h hx rfl hd rfl st
  case h_39 => obtain ⟨rfl, x, S1, rfl, e2⟩ := uI_s hs; cases e2; exact XT.i2b h hx rfl hd rfl st
  case h_40 => obtain ⟨rfl, x, S1, rfl, e2⟩ := uI_s hs; cases e2; exact XT.i2c h hx rfl hd rfl st
  case h_41 => obtain ⟨rfl, x, y, S1, rfl, e2⟩ := cJ_s hs; cases e2; exact XT.lcmp h hx rfl hd rfl st
  case h_42 => obtain ⟨rfl, x, S1, q0, rfl, e2⟩ := dp_s hs; cases e2; exact XS.dup h hx rfl hd rfl (one_cat q0) st
  case h_43 => obtain ⟨rfl, x, y, S1, q0, q1, rfl, e2⟩ := dpx_s hs; cases e2; exact XT.dupX1 h hx rfl hd rfl (one_cat q0) (one_cat q1) st
  case h_44 => obtain ⟨rfl, x, y, S1, q0, q1, rfl, e2⟩ := dp2_s hs; cases e2; exact XT.dup2 h hx rfl hd rfl (one_cat q0) (one_cat q1) st
  case h_45 => obtain ⟨rfl, x, S1, q0, rfl, e2⟩ := pp_s hs; cases e2; exact XT.pop h hx rfl hd rfl (one_cat q0) st
  case h_46 => obtain ⟨rfl, v, L1, e0, e1, e2⟩ := inc_s hs; cases e2; exact XS.iinc h hx rfl hd e0 e1 st
  case h_47 => obtain ⟨rfl, q0, e2⟩ := jmp_s hs; cases e2; exact XS.goto h hx rfl rfl hd q0 rfl st
  case h_48 => cases hs
theorem stq_nil {r : Fr3} (h : stq [] pc L S = some r) : r = (pc, L, S) := (Option.some.inj h).symm
theorem stq_cons {p : Nat} {seg : List (Nat × Instr × Nat)} {r : Fr3} (h : stq ((p, i, len) :: seg) pc L S = some r) : p = pc ∧ ∃ pc1 L1 S1, stp i len pc L S = some (pc1, L1, S1) ∧ stq seg pc1 L1 S1 = some r := by
  have e : stq ((p, i, len) :: seg) pc L S = if p = pc then (match stp i len pc L S with | none => none | some (pc', L', S') => stq seg pc' L' S') else none := rfl
  rw [e] at h
  by_cases q : p = pc
  · rw [if_pos q] at h
    cases e1 : stp i len pc L S with
    | none => rw [e1] at h; cases h
    | some x => obtain ⟨pc1, L1, S1⟩ := x; rw [e1] at h; exact ⟨q, pc1, L1, S1, rfl, h⟩
  · rw [if_neg q] at h; cases h
theorem stq_ok (h : At T m c below) (hx : tb.exec = Jvm.exec) (seg : List (Nat × Instr × Nat)) : ∀ (pc : Nat) (L : Array Slot) (S : List Value), (∀ x ∈ seg, decode c.code x.1 = .ok x.2) → stq seg pc L S = some (pc', L', S') → Steps tb e below (T.setTop (mkF m pc' L' S')) t → Steps tb e below (T.setTop (mkF m pc L S)) t := by
  induction seg with
  | nil =>
    intro pc L S _ hs st
    have e := stq_nil hs
    simp only [Prod.mk.injEq] at e
    obtain ⟨rfl, rfl, rfl⟩ := e
    exact st
  | cons a r ih =>
    intro pc L S hseg hs st
    obtain ⟨p, i, len⟩ := a
    obtain ⟨rfl, pc1, L1, S1, e1, e2⟩ := stq_cons hs
    have hd := hseg _ (List.mem_cons_self ..)
    have hr := ih pc1 L1 S1 (fun x hm => hseg x (List.mem_cons_of_mem _ hm)) e2 st
    exact stp_ok h hx hd e1 hr
end PlainSteps
section Branches
variable {Z : State} {EL : List (String × Nat)} {nI : Bool} {a0 : Array Value} {l : Launch} {own nm : String} {bytes : ByteArray} {ml : Nat} {ret : Option FieldType} {R : Room} {K : Kx} {Q : Option Value → Heap → Prop} {W : List Addr} {h : Heap} {cl sl pc pc' : Nat} {L L' : Array Slot} {S S' rest : List Value} {x y : Int32} {o : Int} {a : Addr}
def segOk (bytes : ByteArray) (seg : List (Nat × Instr × Nat)) : Bool := seg.all fun x => decide (decode bytes x.1 = .ok x.2)
theorem Run.pure (hK : Ok Z EL a0 l own nm bytes ml ret R K) {seg : List (Nat × Instr × Nat)} (hseg : segOk bytes seg = true) (hs : stq seg pc L S = some (pc', L', S')) (k : Run Z EL nI K Q W h cl sl pc' L' S') : Run Z EL nI K Q W h cl sl pc L S := by
  obtain ⟨hx, rfl, rfl, rfl, rfl, -⟩ := id hK
  refine Run.step hK (fun T X t st => stq_ok X hx seg pc L S (fun x hm => ?_) hs st) k
  exact of_decide_eq_true (List.all_eq_true.mp hseg x hm)
theorem Run.icmp (hK : Ok Z EL a0 l own nm bytes ml ret R K) {cd : ClassFile.Cond} (hd : decode bytes pc = .ok (.if_icmp cd o, 3)) (ho : 0 ≤ (pc : Int) + o) (hp : ((pc : Int) + o).toNat = pc')
    (kY : if_icmp.holds cd x y = true → Run Z EL nI K Q W h cl sl pc' L rest) (kN : if_icmp.holds cd x y = false → Run Z EL nI K Q W h cl sl (pc + 3) L rest) : Run Z EL nI K Q W h cl sl pc L (.int y :: .int x :: rest) := by
  obtain ⟨hx, rfl, rfl, rfl, rfl, -⟩ := id hK
  cases hc : if_icmp.holds cd x y
  · exact Run.step hK (fun T X t st => XS.icmpNo X hx rfl hd rfl hc st) (kN hc)
  · exact Run.step hK (fun T X t st => XS.icmpYes X hx rfl (pc0 := pc) rfl hd rfl hc ho hp st) (kY hc)
theorem Run.ifz (hK : Ok Z EL a0 l own nm bytes ml ret R K) {cd : ClassFile.Cond} (hd : decode bytes pc = .ok (.ifCond cd o, 3)) (ho : 0 ≤ (pc : Int) + o) (hp : ((pc : Int) + o).toNat = pc')
    (kY : if_icmp.holds cd x 0 = true → Run Z EL nI K Q W h cl sl pc' L rest) (kN : if_icmp.holds cd x 0 = false → Run Z EL nI K Q W h cl sl (pc + 3) L rest) : Run Z EL nI K Q W h cl sl pc L (.int x :: rest) := by
  obtain ⟨hx, rfl, rfl, rfl, rfl, -⟩ := id hK
  cases hc : if_icmp.holds cd x 0
  · exact Run.step hK (fun T X t st => XS.ifNo X hx rfl hd rfl (by rw [if0]; exact hc) st) (kN hc)
  · exact Run.step hK (fun T X t st => XS.ifYes X hx rfl (pc0 := pc) rfl hd rfl (by rw [if0]; exact hc) ho hp st) (kY hc)
theorem h_eq (x y : Int32) : (if_icmp.holds .eq x y = true → x = y) ∧ (if_icmp.holds .eq x y = false → ¬ x = y) := by
  by_cases q : x = y
  · refine ⟨fun _ => q, fun z => ?_⟩; rw [(teq q).1] at z; cases z
  · refine ⟨fun z => ?_, fun _ => q⟩; rw [(feq q).1] at z; cases z
theorem h_ne (x y : Int32) : (if_icmp.holds .ne x y = true → ¬ x = y) ∧ (if_icmp.holds .ne x y = false → x = y) := by
  by_cases q : x = y
  · refine ⟨fun z => ?_, fun _ => q⟩; rw [(teq q).2] at z; cases z
  · refine ⟨fun _ => q, fun z => ?_⟩; rw [(feq q).2] at z; cases z
theorem h_lt (x y : Int32) : (if_icmp.holds .lt x y = true → x < y) ∧ (if_icmp.holds .lt x y = false → ¬ x < y) := by
  by_cases q : x < y
  · refine ⟨fun _ => q, fun z => ?_⟩; rw [(tlt q).1] at z; cases z
  · refine ⟨fun z => ?_, fun _ => q⟩; rw [(flt q).1] at z; cases z
theorem h_ge (x y : Int32) : (if_icmp.holds .ge x y = true → ¬ x < y) ∧ (if_icmp.holds .ge x y = false → x < y) := by
  by_cases q : x < y
  · refine ⟨fun z => ?_, fun _ => q⟩; rw [(tlt q).2.1] at z; cases z
  · refine ⟨fun _ => q, fun z => ?_⟩; rw [(flt q).2.1] at z; cases z
theorem h_gt (x y : Int32) : (if_icmp.holds .gt x y = true → y < x) ∧ (if_icmp.holds .gt x y = false → ¬ y < x) := by
  by_cases q : y < x
  · refine ⟨fun _ => q, fun z => ?_⟩; rw [(tlt q).2.2.1] at z; cases z
  · refine ⟨fun z => ?_, fun _ => q⟩; rw [(flt q).2.2.1] at z; cases z
theorem h_le (x y : Int32) : (if_icmp.holds .le x y = true → ¬ y < x) ∧ (if_icmp.holds .le x y = false → y < x) := by
  by_cases q : y < x
  · refine ⟨fun z => ?_, fun _ => q⟩; rw [(tlt q).2.2.2] at z; cases z
  · refine ⟨fun _ => q, fun z => ?_⟩; rw [(flt q).2.2.2] at z; cases z
theorem Run.ifn (hK : Ok Z EL a0 l own nm bytes ml ret R K) (hd : decode bytes pc = .ok (.ifnull o, 3)) (ho : 0 ≤ (pc : Int) + o) (hp : ((pc : Int) + o).toNat = pc') (k : Run Z EL nI K Q W h cl sl pc' L rest) : Run Z EL nI K Q W h cl sl pc L (.null :: rest) := by
  obtain ⟨hx, rfl, rfl, rfl, rfl, -⟩ := id hK
  exact Run.step hK (fun T X t st => XS.ifnullYes X hx rfl (pc0 := pc) rfl hd rfl ho hp st) k
theorem Run.ifr (hK : Ok Z EL a0 l own nm bytes ml ret R K) (hd : decode bytes pc = .ok (.ifnull o, 3)) (k : Run Z EL nI K Q W h cl sl (pc + 3) L rest) : Run Z EL nI K Q W h cl sl pc L (.ref a :: rest) := by
  obtain ⟨hx, rfl, rfl, rfl, rfl, -⟩ := id hK
  exact Run.step hK (fun T X t st => XS.ifnullNo X hx rfl hd rfl st) k
theorem Run.ifnnr (hK : Ok Z EL a0 l own nm bytes ml ret R K) (hd : decode bytes pc = .ok (.ifnonnull o, 3)) (ho : 0 ≤ (pc : Int) + o) (hp : ((pc : Int) + o).toNat = pc') (k : Run Z EL nI K Q W h cl sl pc' L rest) : Run Z EL nI K Q W h cl sl pc L (.ref a :: rest) := by
  obtain ⟨hx, rfl, rfl, rfl, rfl, -⟩ := id hK
  exact Run.step hK (fun T X t st => XT.ifnonnullYes X hx rfl (pc0 := pc) rfl hd rfl ho hp st) k
theorem Run.ifnnn (hK : Ok Z EL a0 l own nm bytes ml ret R K) (hd : decode bytes pc = .ok (.ifnonnull o, 3)) (k : Run Z EL nI K Q W h cl sl (pc + 3) L rest) : Run Z EL nI K Q W h cl sl pc L (.null :: rest) := by
  obtain ⟨hx, rfl, rfl, rfl, rfl, -⟩ := id hK
  exact Run.step hK (fun T X t st => XT.ifnonnullNo X hx rfl hd rfl st) k
theorem Run.cast (hK : Ok Z EL a0 l own nm bytes ml ret R K) {Kc : String} {index : Nat} (w : (Jvm.Cond.classLink own index Kc).before a0 Z = true) (F : Ins Z h a Kc true) (hd : decode bytes pc = .ok (.checkcast index, 3)) (k : Run Z EL nI K Q W h cl sl (pc + 3) L (.ref a :: rest)) : Run Z EL nI K Q W h cl sl pc L (.ref a :: rest) := by
  obtain ⟨hx, rfl, rfl, rfl, rfl, -⟩ := id hK
  refine Run.same hK (fun T vm0 locs X hZ hown e => ?_) k
  exact castY X hx hZ hown w e F (g := mkF K.m pc L (.ref a :: rest)) rfl rfl hd
theorem Run.castn (hK : Ok Z EL a0 l own nm bytes ml ret R K) {index : Nat} (hd : decode bytes pc = .ok (.checkcast index, 3)) (k : Run Z EL nI K Q W h cl sl (pc + 3) L (.null :: rest)) : Run Z EL nI K Q W h cl sl pc L (.null :: rest) := by
  obtain ⟨hx, rfl, rfl, rfl, rfl, -⟩ := id hK
  refine Run.same hK (fun T vm0 locs X hZ hown e => ⟨T, X, e, ?_⟩) k
  exact X.checkcastNull hx (g := mkF K.m pc L (.null :: rest)) rfl rfl hd
theorem Run.instY (hK : Ok Z EL a0 l own nm bytes ml ret R K) {Kc : String} {index : Nat} (w : (Jvm.Cond.classLink own index Kc).before a0 Z = true) (F : Ins Z h a Kc true) (hd : decode bytes pc = .ok (.instanceof index, 3)) (k : Run Z EL nI K Q W h cl sl (pc + 3) L (.int 1 :: rest)) : Run Z EL nI K Q W h cl sl pc L (.ref a :: rest) := by
  obtain ⟨hx, rfl, rfl, rfl, rfl, -⟩ := id hK
  refine Run.same hK (fun T vm0 locs X hZ hown e => ?_) k
  exact Jvm.RoadKit.instY X hx hZ hown w e F (g := mkF K.m pc L (.ref a :: rest)) rfl rfl hd
theorem Run.instN (hK : Ok Z EL a0 l own nm bytes ml ret R K) {Kc C : String} {index : Nat} (w : (Jvm.Cond.classLink own index Kc).before a0 Z = true) (F : Ins Z h a Kc false) (E : Exa Z h a C) (hd : decode bytes pc = .ok (.instanceof index, 3)) (k : Run Z EL nI K Q W h cl sl (pc + 3) L (.int 0 :: rest)) : Run Z EL nI K Q W h cl sl pc L (.ref a :: rest) := by
  obtain ⟨hx, rfl, rfl, rfl, rfl, -⟩ := id hK
  refine Run.same hK (fun T vm0 locs X hZ hown e => ?_) k
  obtain ⟨cell, cT, h1, h2, h3⟩ := F
  obtain ⟨cell', kc, e1, -, e3, e4, -⟩ := E
  cases h1.symm.trans e1
  obtain ⟨k', q, -⟩ := hZ.alike.2.2 _ _ e3
  obtain ⟨vm', X', st⟩ := Jvm.Sym.instanceofNoAt X hx hown (mvT hZ w) (by rw [e]; exact h1) e4 q (by rw [hZ.alike.findClass]; exact h2) (by rw [hZ.alike.assignable]; simpa [e4] using h3) (g := mkF K.m pc L (.ref a :: rest)) rfl rfl hd
  exact ⟨_, X', e, st⟩
theorem Run.instNull (hK : Ok Z EL a0 l own nm bytes ml ret R K) {index : Nat} (hd : decode bytes pc = .ok (.instanceof index, 3)) (k : Run Z EL nI K Q W h cl sl (pc + 3) L (.int 0 :: rest)) : Run Z EL nI K Q W h cl sl pc L (.null :: rest) := by
  obtain ⟨hx, rfl, rfl, rfl, rfl, -⟩ := id hK
  refine Run.same hK (fun T vm0 locs X hZ hown e => ⟨T, X, e, ?_⟩) k
  exact X.instanceofNull hx (g := mkF K.m pc L (.null :: rest)) rfl rfl hd
/-- if_acmp: same: whether the two are one -/
theorem Run.acmp (hK : Ok Z EL a0 l own nm bytes ml ret R K) {cd : ACond} {u v : Value} (h1 : u.isRef = true) (h2 : v.isRef = true) {same : Bool} (hq : decide (u = v) = same) (hd : decode bytes pc = .ok (.if_acmp cd o, 3)) (ho : 0 ≤ (pc : Int) + o) (hp : pc' = if acV cd same = true then ((pc : Int) + o).toNat else pc + 3)
    (k : Run Z EL nI K Q W h cl sl pc' L rest) : Run Z EL nI K Q W h cl sl pc L (v :: u :: rest) := by
  obtain ⟨hx, rfl, rfl, rfl, rfl, -⟩ := id hK
  refine Run.same hK (fun T vm0 locs X hZ hown e => ⟨T, X, e, fun t st => ?_⟩) k
  exact Jvm.RoadKit.acmp X hx (g := mkF K.m pc L (v :: u :: rest)) rfl h1 h2 (pc0 := pc) rfl hd rfl hq ho hp st
theorem Run.irem (hK : Ok Z EL a0 l own nm bytes ml ret R K) (hd : decode bytes pc = .ok (.irem, 1)) (hy : y ≠ 0) (k : Run Z EL nI K Q W h cl sl (pc + 1) L (.int (x % y) :: rest)) : Run Z EL nI K Q W h cl sl pc L (.int y :: .int x :: rest) := by
  obtain ⟨hx, rfl, rfl, rfl, rfl, -⟩ := id hK
  refine Run.same hK (fun T vm0 locs X hZ hown e => ⟨T, X, e, fun t st => ?_⟩) k
  exact iremM X hx (g := mkF K.m pc L (.int y :: .int x :: rest)) rfl hd rfl hy st
end Branches
end Jvm.OwnK
namespace Jvm.OwnK
open Sem ClassFile Op Lib Jvm.RoadKit
theorem tI0 : (0 : Int32).toInt = 0 := rfl
theorem c16 {x : Int32} (h0 : ¬ x < 0) (h1 : ¬ (65535 : Int32) < x) : x.toUInt32.toUInt16.toUInt32.toInt32 = x := by
  have q := c_i2c x
  rw [Int32.lt_iff_toInt_lt] at h0 h1
  have e1 : (0 : Int32).toInt = 0 := rfl
  have e2 : (65535 : Int32).toInt = 65535 := rfl
  apply Int32.toInt_inj.mp; omega
theorem lt255 {x : Int32} (h : ¬ (255 : Int32) < x) : ¬ (65535 : Int32) < x := fun q => h (Int32.lt_trans (by decide) q)
/-- a char below 256, as i2c, castore and ireturn leave it -/
theorem nc {x : Int32} (h : ¬ x < 0 ∧ ¬ (255 : Int32) < x) : nar .char x = x := c16 h.1 (lt255 h.2)
theorem nrc {x : Int32} (h : ¬ x < 0 ∧ ¬ (255 : Int32) < x) : narrow .char (.int x) = .int x := by rw [show narrow .char (.int x) = .int x.toUInt32.toUInt16.toUInt32.toInt32 from rfl, c16 h.1 (lt255 h.2)]
theorem m255 (x : Int32) : ¬ (x &&& 255) < 0 ∧ ¬ (255 : Int32) < (x &&& 255) := by
  have q := c_and x 255 (by decide)
  have e2 : (255 : Int32).toInt = 255 := rfl
  rw [Int32.lt_iff_toInt_lt, Int32.lt_iff_toInt_lt, tI0, e2]; omega
theorem i2c255 (x : Int32) : (x &&& (255 : Int32)).toUInt32.toUInt16.toUInt32.toInt32 = x &&& 255 := c16 (m255 x).1 (lt255 (m255 x).2)
theorem ofN {n : Nat} (h : n ≤ 4000) : (Int32.ofNat n).toInt = n := Int32.toInt_ofNat_small (by omega)
theorem ofN_lt {n : Nat} (h : n ≤ 4000) {k : Int32} {m : Nat} (hk : k.toInt = m) : Int32.ofNat n < k ↔ n < m := by rw [Int32.lt_iff_toInt_lt, ofN h, hk]; omega
theorem ofN_sub {n m : Nat} (h : n ≤ 4000) (hm : m ≤ n) : Int32.ofNat n - Int32.ofNat m = Int32.ofNat (n - m) := by
  apply Int32.toInt_inj.mp
  have q := c_isub (Int32.ofNat n) (Int32.ofNat m)
  have r := rng32 (Int32.ofNat n - Int32.ofNat m)
  rw [ofN h, ofN (by omega)] at q
  rw [ofN (by omega)]; omega
theorem ofN_add {n m : Nat} (h : n + m ≤ 4000) : Int32.ofNat n + Int32.ofNat m = Int32.ofNat (n + m) := by
  apply Int32.toInt_inj.mp
  have q := c_iadd (Int32.ofNat n) (Int32.ofNat m)
  have r := rng32 (Int32.ofNat n + Int32.ofNat m)
  rw [ofN (by omega), ofN (by omega)] at q
  rw [ofN h]; omega
end Jvm.OwnK
namespace Jvm.OwnK
open Sem ClassFile Op Lib Jvm.Free Jvm.RoadKit
section Facts
variable {Z : State} {a0 : Array Value} {h h1 h2 : Heap} {a : Addr} {C K O : String} {n : Nat} {ws : List Addr}
theorem Ext.tr (E : Ext h h1) (F : Ext h1 h2) : Ext h h2 := ⟨Nat.le_trans E.1 F.1, fun x c q => F.2 x c (E.2 x c q)⟩
theorem Ext.rf : Ext h h := ⟨Nat.le_refl _, fun _ _ q => q⟩
theorem ext_keep (E : Ext h h1) (F : Keep h1 h2 ws) (hn : ∀ x ∈ ws, h.size ≤ x) : Ext h h2 := ⟨Nat.le_trans E.1 F.1, fun x c q => F.2.1 x c (E.2 x c q) fun hm => absurd (Array.getElem?_eq_some_iff.mp q).1 (Nat.not_lt.mpr (hn x hm))⟩
theorem ext_wr (E : Ext h h1) {i : Nat} {v : Value} (F : Wr h1 h2 a i v) (hn : h.size ≤ a) : Ext h h2 := ext_keep E (Keep.of_wr F) (fun x hx => by cases List.mem_singleton.mp hx; exact hn)
/-- an object of C is none of K: C's superclass is O, which has none -/
theorem ins_no (w1 : (Jvm.Cond.superclass C O).before a0 Z = true) (w2 : (Jvm.Cond.noSuperclass O).before a0 Z = true) (wi : (Jvm.Cond.instantiable K n).before a0 Z = true) (g1 : C ≠ K) (g2 : O ≠ K) (E : Exa Z h a C) : Ins Z h a K false := by
  obtain ⟨t, kt, t1, t2, t3, t4, -⟩ := Cond.instantiable_spec wi
  obtain ⟨c, h0⟩ := found_sup w1
  obtain ⟨p, k, kp, s1, s2, s3, s4, s5, s6, s7⟩ := Cond.superclass_spec h0 w1
  obtain ⟨p', kp', r1, r2, r3, r4, r5⟩ := Cond.noSuperclass_spec w2
  cases s1.symm.trans r1
  obtain ⟨cell, kc, e1, e2, e3, e4, -⟩ := E
  cases h0.symm.trans e2
  have n1 := ids_ne h0 t1 g1
  have n2 := ids_ne s1 t1 g2
  have n3 : ∀ fuel, Z.vm.isSubclassAux fuel p t = false := fun fuel => by
    cases fuel with
    | zero => rfl
    | succ f => simp [Vm.isSubclassAux, n2, r2, r3]
  have n4 : ∀ fuel, Z.vm.isSubclassAux fuel cell.cls t = false := fun fuel => by
    cases fuel with
    | zero => rfl
    | succ f => simp [Vm.isSubclassAux, n1, s2, s4, n3]
  have ti : kt.isInterface = false := by cases q : kt.isInterface <;> simp [q] at t4 ⊢
  refine ⟨cell, t, e1, t1, ?_⟩
  have : Z.vm.assignable cell.cls t = false := by
    show Z.vm.assignableAux (255 + 1) cell.cls t = false
    simp [Vm.assignableAux, n1, s2, t2, s5, t3, ti, Vm.isSubclass, n4]
  rw [this]; simp
/-- .. C's superclass is D, D's is O, which has none -/
theorem ins_no2 {D : String} (w0 : (Jvm.Cond.superclass C D).before a0 Z = true) (w1 : (Jvm.Cond.superclass D O).before a0 Z = true) (w2 : (Jvm.Cond.noSuperclass O).before a0 Z = true) (wi : (Jvm.Cond.instantiable K n).before a0 Z = true) (g0 : C ≠ K) (g1 : D ≠ K) (g2 : O ≠ K) (E : Exa Z h a C) : Ins Z h a K false := by
  obtain ⟨t, kt, t1, t2, t3, t4, -⟩ := Cond.instantiable_spec wi
  obtain ⟨c, h0⟩ := found_sup w0
  obtain ⟨d, k0, kd, u1, u2, u3, u4, u5, u6, u7⟩ := Cond.superclass_spec h0 w0
  obtain ⟨p, k, kp, s1, s2, s3, s4, s5, s6, s7⟩ := Cond.superclass_spec u1 w1
  obtain ⟨p', kp', r1, r2, r3, r4, r5⟩ := Cond.noSuperclass_spec w2
  cases s1.symm.trans r1
  obtain ⟨cell, kc, e1, e2, e3, e4, -⟩ := E
  cases h0.symm.trans e2
  have n0 := ids_ne h0 t1 g0
  have n1 := ids_ne u1 t1 g1
  have n2 := ids_ne s1 t1 g2
  have n3 : ∀ fuel, Z.vm.isSubclassAux fuel p t = false := fun fuel => by
    cases fuel with
    | zero => rfl
    | succ f => simp [Vm.isSubclassAux, n2, r2, r3]
  have n4 : ∀ fuel, Z.vm.isSubclassAux fuel d t = false := fun fuel => by
    cases fuel with
    | zero => rfl
    | succ f => simp [Vm.isSubclassAux, n1, s2, s4, n3]
  have n5 : ∀ fuel, Z.vm.isSubclassAux fuel cell.cls t = false := fun fuel => by
    cases fuel with
    | zero => rfl
    | succ f => simp [Vm.isSubclassAux, n0, u2, u4, n4]
  have ti : kt.isInterface = false := by cases q : kt.isInterface <;> simp [q] at t4 ⊢
  refine ⟨cell, t, e1, t1, ?_⟩
  have : Z.vm.assignable cell.cls t = false := by
    show Z.vm.assignableAux (255 + 1) cell.cls t = false
    simp [Vm.assignableAux, n0, u2, t2, u5, t3, ti, Vm.isSubclass, n5]
  rw [this]; simp
theorem and3 (x : Int32) : x &&& 3 = 0 ∨ x &&& 3 = 1 ∨ x &&& 3 = 2 ∨ x &&& 3 = 3 := by
  have q := c_mask x 3 2 (by decide) (by decide)
  have e : ∀ k : Int32, (x &&& 3).toInt = k.toInt → x &&& 3 = k := fun k h => Int32.toInt_inj.mp h
  have h0 := e 0; have h1 := e 1; have h2 := e 2; have h3 := e 3
  have e0 : (0 : Int32).toInt = 0 := rfl
  have e1 : (1 : Int32).toInt = 1 := rfl
  have e2 : (2 : Int32).toInt = 2 := rfl
  have e3 : (3 : Int32).toInt = 3 := rfl
  rw [e0] at h0; rw [e1] at h1; rw [e2] at h2; rw [e3] at h3
  have : x.toInt % ((2 ^ 2 : Nat) : Int) = 0 ∨ x.toInt % ((2 ^ 2 : Nat) : Int) = 1 ∨ x.toInt % ((2 ^ 2 : Nat) : Int) = 2 ∨ x.toInt % ((2 ^ 2 : Nat) : Int) = 3 := by omega
  rcases this with z | z | z | z
  · exact Or.inl (h0 (q.trans z))
  · exact Or.inr (Or.inl (h1 (q.trans z)))
  · exact Or.inr (Or.inr (Or.inl (h2 (q.trans z))))
  · exact Or.inr (Or.inr (Or.inr (h3 (q.trans z))))
end Facts
end Jvm.OwnK
namespace Jvm.OwnK
open Sem ClassFile Op Lib Jvm.RoadKit
theorem getD_mapI (cs : List Int32) (i : Nat) : (cs.map Value.int).getD i (.int 0) = .int (cs.getD i 0) := by
  simp only [List.getD_eq_getElem?_getD, List.getElem?_map]
  cases cs[i]? <;> rfl
theorem set_map (cs : List Int32) (i n : Nat) (c : Int32) (hn : n = cs.length) : setv (cs.map Value.int) n i (.int 0) (.int c) = (cs.set i c).map Value.int := by
  unfold setv; simp [hn, List.map_set]
theorem set_eq {cs : List Int32} {i : Nat} {c : Int32} (hi : i < cs.length) : cs.set i c = cs ↔ c = cs.getD i 0 := by
  constructor
  · intro h
    have q : (cs.set i c).getD i 0 = cs.getD i 0 := by rw [h]
    simpa [List.getD_eq_getElem?_getD, hi] using q
  · rintro rfl
    refine List.ext_getElem (by simp) fun j h1 h2 => ?_
    rw [List.getElem_set]
    split
    · rename_i e; subst e; simp [List.getD_eq_getElem?_getD, hi]
    · rfl
theorem ofN_nat {n : Nat} (h : n ≤ 4000) : (Int32.ofNat n).toNatClampNeg = n := by
  have := ofN h
  simp only [Int32.toNatClampNeg, this]; omega
theorem ofN_nn {n : Nat} (h : n ≤ 4000) : ¬ Int32.ofNat n < 0 := by rw [Int32.lt_iff_toInt_lt, ofN h, tI0]; omega
end Jvm.OwnK
namespace Jvm.OwnK
open Sem ClassFile Op Lib Bundle Jvm.Stand Jvm.Free Jvm.LawKit Jvm.RoadKit
/-! lists: arrays of references, class objects, switches, calls through an interface, nest mates -/
/-- the Class object of C is made -/
def Mi (Z : State) (C : String) (mr : Addr) : Prop := ∃ (c : ClassId) (k : Class), Z.vm.findClass C = some c ∧ Z.vm.classes[c]? = some k ∧ k.mirror = some mr
section Lst
variable {Z : State} {EL : List (String × Nat)} {nI : Bool} {a0 : Array Value} {l : Launch} {own nm : String} {bytes : ByteArray} {ml : Nat} {ret : Option FieldType} {R rm : Room} {K : Kx} {Q Qy : Option Value → Heap → Prop} {W W' : List Addr} {h : Heap} {cl sl pc pc' len Wt kc ks : Nat} {L L' : Array Slot} {S rest argsL : List Value} {y z : MethodName} {as' : Array Value} {index : Nat} {C Oc : String} {a b : Addr}
theorem Run.newr (hK : Ok Z EL a0 l own nm bytes ml ret R K) (w1 : (Jvm.Cond.classLink own index Oc).before a0 Z = true) (w2 : (Jvm.Cond.arrayOver (.object Oc)).before a0 Z = true) {n : Int32} (hd : decode bytes pc = .ok (.anewarray index, 3)) (hn : ¬ n < 0) {cap : Nat} (hcap : n.toNatClampNeg ≤ cap) (hb : cap * 8 ≤ 536870912) (hc : cl + 1 ≤ R.cells) (hl : sl + cap ≤ R.slots) {ad : String} (had : "[" ++ (FieldType.object Oc).toString = ad)
    (k : ∀ h' cA, Ext h h' → Arv Z h' h.size cA (.object Oc) n [] .null → Exa Z h' h.size ad → Ovr Z cA Oc → Run Z EL nI K Q (h.size :: W) h' (cl + 1) (sl + cap) (pc + 3) L (.ref h.size :: rest)) : Run Z EL nI K Q W h cl sl pc L (.int n :: rest) := by
  obtain ⟨hx, rfl, rfl, rfl, rfl, -⟩ := id hK
  refine Run.grow hK (P := fun h' => ∃ cA, Arv Z h' h.size cA (.object Oc) n [] .null ∧ Exa Z h' h.size ad ∧ Ovr Z cA Oc) (fun T vm0 locs X hZ hown e => ?_) (fun h' E ⟨cA, P1, P2, P3⟩ => k h' cA E P1 P2 P3)
  obtain ⟨T', h', cA, X', e', E', A', x', o', st⟩ := newRE X hx hZ hown w1 w2 e (g := mkF K.m pc L (.int n :: rest)) rfl hd rfl hn hcap hb hc hl had
  exact ⟨T', h', X', e', E', A'.lt, ⟨cA, Arv.new A' hn, x', o'⟩, st⟩
theorem Run.ast (hK : Ok Z EL a0 l own nm bytes ml ret R K) {k0 : ClassId} {zz : Int32} {vs : List Value} {dv : Value} {j : Int32} (A : Arv Z h a k0 (.object Oc) zz vs dv) (hj : ¬ j < 0 ∧ j < zz) (F : Sto Z h a (.ref b)) (ha : Z.heap.size ≤ a) (hs : Sf Z EL W h a) (hd : decode bytes pc = .ok (.aastore, 1))
    (k : ∀ h', Wr h h' a j.toNatClampNeg (.ref b) → Arv Z h' a k0 (.object Oc) zz (setv vs zz.toNatClampNeg j.toNatClampNeg dv (.ref b)) dv → Run Z EL nI K Q W h' cl sl (pc + 1) L rest) : Run Z EL nI K Q W h cl sl pc L (.ref b :: .int j :: .ref a :: rest) := by
  obtain ⟨hx, rfl, rfl, rfl, rfl, -⟩ := id hK
  obtain ⟨c0, A1, hin, hat⟩ := arv_at A hj
  refine Run.write hK ha hs (fun T vm0 locs X hZ hown e => ?_) (fun h' Wt => k h' Wt (arv_set A hj rfl Wt))
  exact stR X hx hZ e A1 hin rfl F (g := mkF K.m pc L (.ref b :: .int j :: .ref a :: rest)) rfl rfl hd
theorem Run.aalv (hK : Ok Z EL a0 l own nm bytes ml ret R K) {k0 : ClassId} {zz : Int32} {vs : List Value} {dv v : Value} {j : Int32} (A : Arv Z h a k0 (.object Oc) zz vs dv) (hj : ¬ j < 0 ∧ j < zz) (hv : vs.getD j.toNatClampNeg dv = v) (hd : decode bytes pc = .ok (.aaload, 1))
    (k : Run Z EL nI K Q W h cl sl (pc + 1) L (v :: rest)) : Run Z EL nI K Q W h cl sl pc L (.int j :: .ref a :: rest) := by
  obtain ⟨c0, A1, hin, hat⟩ := arv_at A hj
  rw [hv] at hat
  exact Run.aald hK A1 rfl hin hat hd k
/-- getClass() -/
theorem Run.gcl (hK : Ok Z EL a0 l own nm bytes ml ret R K) (w1 : (Jvm.Cond.methodLink own index ⟨"java/lang/Object", "getClass", "()Ljava/lang/Class;"⟩).before a0 Z = true) (w2 : (Jvm.Cond.declares ⟨"java/lang/Object", "getClass", "()Ljava/lang/Class;"⟩).before a0 Z = true) (w3 : (Jvm.Cond.noSuperclass "java/lang/Object").before a0 Z = true) (w4 : (Jvm.Cond.selects C ⟨"java/lang/Object", "getClass", "()Ljava/lang/Class;"⟩ ⟨"java/lang/Object", "getClass", "()Ljava/lang/Class;"⟩).before a0 Z = true)
    (w5 : (Jvm.Cond.instanceMethod ⟨"java/lang/Object", "getClass", "()Ljava/lang/Class;"⟩).before a0 Z = true) (w6 : (Jvm.Cond.native ⟨"java/lang/Object", "getClass", "()Ljava/lang/Class;"⟩).before a0 Z = true) (E : Exa Z h a C) {mr : Addr} (M : Mi Z C mr) (hsz : L.size = ml) (hd : decode bytes pc = .ok (.invokevirtual index, 3)) (hf : 1 ≤ R.frames) (hlo : (rest.map fun v => v.category).sum + (nativeFrameWords "java/lang/Object" "getClass" 1 + 11) ≤ R.locals)
    (k : Run Z EL nI K Q W h cl sl (pc + 3) L (.ref mr :: rest)) : Run Z EL nI K Q W h cl sl pc L (.ref a :: rest) := by
  obtain ⟨hx, rfl, rfl, rfl, rfl, -⟩ := id hK
  refine Run.same hK (fun T vm0 locs X hZ hown e => ?_) k
  obtain ⟨cB, kB, i1, i2, i3⟩ := isOf hZ e E
  obtain ⟨cc, kc, m1, m2, m3⟩ := M
  rw [hZ.alike.findClass] at i1
  cases i1.symm.trans m1
  obtain ⟨k', q, ek⟩ := hZ.alike.2.2 _ _ m2
  obtain ⟨vm', X', st⟩ := X.getClassOf hx hown (mvT hZ w1) (mvT hZ w2) (nf_top (args := #[]) (mvT hZ w3)) (mvT hZ w4) (mvT hZ w5) (mvT hZ w6) (by rw [hZ.alike.findClass]; exact m1) i3 q (by rw [ek]; exact m3) (g := mkF K.m pc L (.ref a :: rest)) rfl hsz rfl hd hf (by show 2 * 0 + _ + _ ≤ _; omega)
  exact ⟨_, X', e, st⟩
/-- ldc of a class -/
theorem Run.ldck (hK : Ok Z EL a0 l own nm bytes ml ret R K) (w : (Jvm.Cond.classLink own index C).before a0 Z = true) {mr : Addr} (M : Mi Z C mr) (hd : decode bytes pc = .ok (.ldc index, 2)) (k : Run Z EL nI K Q W h cl sl (pc + 2) L (.ref mr :: S)) : Run Z EL nI K Q W h cl sl pc L S := by
  obtain ⟨hx, rfl, rfl, rfl, rfl, -⟩ := id hK
  refine Run.same hK (fun T vm0 locs X hZ hown e => ?_) k
  obtain ⟨cc, kc, m1, m2, m3⟩ := M
  obtain ⟨k', q, ek⟩ := hZ.alike.2.2 _ _ m2
  have f1 : vm0.findClass C = some cc := by rw [show vm0 = (K.s.setVm vm0).vm from rfl, hZ.alike.findClass]; exact m1
  have q' : vm0.classes[cc]? = some k' := q
  have km : k'.mirror = some mr := by rw [ek]; exact m3
  have hev : (Term.mirror C).eval K.as (K.s.setVm vm0) none [] (K.s.setVm vm0) = some (.ref mr) := by
    simp [Term.eval, f1, q', km]
  obtain ⟨vm', X', st⟩ := X.ldcMirror hx hown (mvT (args := K.as) hZ w) hev (g := mkF K.m pc L S) rfl hd
  exact ⟨_, X', e, st⟩
theorem Run.tswI (hK : Ok Z EL a0 l own nm bytes ml ret R K) {dflt low high : Int} {offs : Array Int} {ln : Nat} {o : Int} {i : Int32} (hd : decode bytes pc = .ok (.tableswitch dflt low high offs, ln)) (hin : ¬ (i.toInt < low ∨ i.toInt > high)) (hoff : offs[(i.toInt - low).toNat]? = some o) (ho : 0 ≤ (pc : Int) + o) (hp : ((pc : Int) + o).toNat = pc') (k : Run Z EL nI K Q W h cl sl pc' L rest) : Run Z EL nI K Q W h cl sl pc L (.int i :: rest) := by
  obtain ⟨hx, rfl, rfl, rfl, rfl, -⟩ := id hK
  exact Run.step hK (fun T X t st => XS.tswIn X hx (g := mkF K.m pc L (.int i :: rest)) rfl (pc0 := pc) rfl hd rfl hin hoff ho hp st) k
theorem Run.tswO (hK : Ok Z EL a0 l own nm bytes ml ret R K) {dflt low high : Int} {offs : Array Int} {ln : Nat} {i : Int32} (hd : decode bytes pc = .ok (.tableswitch dflt low high offs, ln)) (hout : i.toInt < low ∨ i.toInt > high) (ho : 0 ≤ (pc : Int) + dflt) (hp : ((pc : Int) + dflt).toNat = pc') (k : Run Z EL nI K Q W h cl sl pc' L rest) : Run Z EL nI K Q W h cl sl pc L (.int i :: rest) := by
  obtain ⟨hx, rfl, rfl, rfl, rfl, -⟩ := id hK
  exact Run.step hK (fun T X t st => XS.tswOut X hx (g := mkF K.m pc L (.int i :: rest)) rfl (pc0 := pc) rfl hd rfl hout ho hp st) k
/-- invokeinterface -/
theorem Run.iface (hK : Ok Z EL a0 l own nm bytes ml ret R K) {count : Nat} (w1 : ∀ (s : State) (as : Array Value), Z.Warmed39 s.vm → (Jvm.Cond.methodLink own index y).before as s = true) (w2 : ∀ (s : State) (as : Array Value), Z.Warmed39 s.vm → (Jvm.Cond.declares y).before as s = true) (wf : ∀ (s : State) (as : Array Value), Z.Warmed39 s.vm → (Jvm.Cond.interfaceMethod y.cls y.cls y.name y.desc).before as s = true) (w3 : ∀ (s : State) (as : Array Value), Z.Warmed39 s.vm → (Jvm.Cond.selects C y z).before as s = true) (w4 : ∀ (s : State) (as : Array Value), Z.Warmed39 s.vm → (Jvm.Cond.instanceMethod z).before as s = true) (w5 : ∀ (s : State) (as : Array Value), Z.Warmed39 s.vm → (Jvm.Cond.publicMethod z).before as s = true) (w6 : ∀ (s : State) (as : Array Value), Z.Warmed39 s.vm → (Jvm.Cond.unhidden C y.name y.desc).before as s = true) (w7 : ∀ (s : State) (as : Array Value), Z.Warmed39 s.vm → (Jvm.Cond.castable C y.cls).before as s = true)
    (hy : y.cls ≠ "java/lang/invoke/MethodHandle" ∧ y.cls ≠ "java/lang/invoke/VarHandle") (E : Exa Z h a C) (hsub : ∀ x ∈ W', x ∈ W) (hC : Cal Z EL nI a0 l R z 5 Wt (.ref a :: argsL).toArray h W' kc ks Qy) (hsz : L.size = ml)
    (hlen : ∀ sig, parseMethodDescriptor y.desc = some sig → argsL.length = sig.parameters.length) (hst : S = argsL.reverse ++ .ref a :: rest) (hW : (rest.map fun v => v.category).sum ≤ Wt) (hd : decode bytes pc = .ok (.invokeinterface index count, 5)) (hc : cl + kc ≤ R.cells) (hs : sl + ks ≤ R.slots)
    (k : ∀ v h', Qy v h' → h.size ≤ h'.size → Run Z EL nI K Q W h' (cl + kc) (sl + ks) (pc + 5) L (v.toList ++ rest)) : Run Z EL nI K Q W h cl sl pc L S := fun T X => by
  obtain ⟨vm0, k0, locs, X1, X2, X3, X4, X5, X6, X7, X8, X9, X10⟩ := X
  have hown := hK.fc X2
  obtain ⟨hx, rfl, rfl, rfl, rfl, -, -, -, -, hEL⟩ := id hK
  have hZ : Z.Warmed39 (K.s.setVm vm0).vm := X4
  subst hst
  obtain ⟨cq, kq, qa, qb, qc⟩ := isOf hZ X7 E
  obtain ⟨v, vm1, B, -, Y, hS, hg, hp, st⟩ := X1.interfaceBackS hx (xi := y) (y := z) hown (w1 _ _ hZ) (w2 _ _ hZ) (wf _ _ hZ) (w3 _ _ hZ) (w4 _ _ hZ) (w5 _ _ hZ) (w6 _ _ hZ) (w7 _ _ hZ) hy (hC K.p K.e K.bl K.s K.as vm0 X4 hEL X5.1 (fun x hx => X6 x (hsub x hx)) X10) qa qb qc (g := mkF K.m pc L (argsL.reverse ++ .ref a :: rest)) rfl hsz (Steps.refl _) (argsL := argsL) (rest := rest) hlen rfl (by show 2 * 0 + _ ≤ _; omega) hd (fun _ _ => ⟨rfl, X7, hc, hs⟩)
  rw [X7] at hg
  obtain ⟨hq, Y'⟩ := St.back hK X2 X3 X4 X5 X6 X8 X9 Y hS hg hp
  obtain ⟨s2, v', Lo, g, r⟩ := k v _ hq hg B.U Y'
  exact ⟨s2, v', Lo, st.trans g, r⟩
/-- invokespecial of a nest mate's private constructor -/
theorem Run.specialN (hK : Ok Z EL a0 l own nm bytes ml ret R K) {by' : ByteArray} {ml' : Nat} {host : String} (hy1 : y.name = "<init>") (w1 : (Jvm.Cond.methodLinkNest own index y host).before a0 Z = true) (w2 : (Jvm.Cond.instanceMethod y).before a0 Z = true) (w4 : (Jvm.Cond.code y by' ml' none).before a0 Z = true)
    (hy : y.cls ≠ "java/lang/invoke/MethodHandle" ∧ y.cls ≠ "java/lang/invoke/VarHandle") (hsub : ∀ x ∈ W', x ∈ W) (hC : Cal Z EL nI a0 l R y 3 Wt (.ref a :: argsL).toArray h W' kc ks Qy) (hsz : L.size = ml)
    (hlen : ∀ sig, parseMethodDescriptor y.desc = some sig → argsL.length = sig.parameters.length) (hst : S = argsL.reverse ++ .ref a :: rest) (hW : (rest.map fun v => v.category).sum ≤ Wt) (hd : decode bytes pc = .ok (.invokespecial index, 3)) (hc : cl + kc ≤ R.cells) (hs : sl + ks ≤ R.slots)
    (k : ∀ v h', Qy v h' → h.size ≤ h'.size → Run Z EL nI K Q W h' (cl + kc) (sl + ks) (pc + 3) L (v.toList ++ rest)) : Run Z EL nI K Q W h cl sl pc L S := fun T X => by
  obtain ⟨vm0, k0, locs, X1, X2, X3, X4, X5, X6, X7, X8, X9, X10⟩ := X
  have hown := hK.fc X2
  obtain ⟨hx, rfl, rfl, rfl, rfl, -, -, -, -, hEL⟩ := id hK
  have hZ : Z.Warmed39 (K.s.setVm vm0).vm := X4
  subst hst
  obtain ⟨v, vm1, B, -, Y, hS, hg, hp, st⟩ := X1.specialBackNestS hx (y := y) hy1 hown (Cond.methodLinkNest_wide (s := Z) hZ w1 :) (mv hZ w2) (mv hZ w4) hy (hC K.p K.e K.bl K.s K.as vm0 X4 hEL X5.1 (fun x hx => X6 x (hsub x hx)) X10) (g := mkF K.m pc L (argsL.reverse ++ .ref a :: rest)) rfl hsz (Steps.refl _) (a := a) (argsL := argsL) (rest := rest) hlen rfl (by show 2 * 0 + _ ≤ _; omega) hd (fun _ _ => ⟨rfl, X7, hc, hs⟩)
  rw [X7] at hg
  obtain ⟨hq, Y'⟩ := St.back hK X2 X3 X4 X5 X6 X8 X9 Y hS hg hp
  obtain ⟨s2, v', Lo, g, r⟩ := k v _ hq hg B.U Y'
  exact ⟨s2, v', Lo, st.trans g, r⟩
/-- System.arraycopy between arrays of Object -/
theorem Run.cpyR (hK : Ok Z EL a0 l own nm bytes ml ret R K) (w1 : (Jvm.Cond.methodLink own index Jvm.Stand.acN).before a0 Z = true) (w2 : (Jvm.Cond.native Jvm.Stand.acN).before a0 Z = true) (w3 : (Jvm.Cond.static Jvm.Stand.acN).before a0 Z = true) (w4 : (Jvm.Cond.initialized "java/lang/System").before a0 Z = true)
    {k1 k2 : ClassId} {zz z' sp dp nn : Int32} {vs vd us : List Value} {dv dd : Value} (A : Arv Z h a k1 (.object Oc) zz vs dv) (B : Arv Z h b k2 (.object Oc) z' vd dd) (hst : StoL Z h b us) (h1 : ¬ sp < 0) (h2 : ¬ dp < 0) (h3 : ¬ nn < 0) (h4 : sp.toNatClampNeg + nn.toNatClampNeg ≤ zz.toNatClampNeg) (h5 : dp.toNatClampNeg + nn.toNatClampNeg ≤ z'.toNatClampNeg)
    (hus : us = (List.range nn.toNatClampNeg).map fun i => vs.getD (sp.toNatClampNeg + i) dv) (hl : dp.toNatClampNeg + nn.toNatClampNeg ≤ vd.length) (ge : Z.heap.size ≤ b) (hs : Sf Z EL W h b) (hsz : L.size = ml) (hd : decode bytes pc = .ok (.invokestatic index, 3)) (hf : 1 ≤ R.frames) {Wt : Nat} (hW : (rest.map fun v => v.category).sum ≤ Wt) (hlo : Wt + 18 ≤ R.locals)
    (k : ∀ h', Keep h h' [b] → Arv Z h' b k2 (.object Oc) z' (vd.take dp.toNatClampNeg ++ us ++ vd.drop (dp.toNatClampNeg + nn.toNatClampNeg)) dd → Run Z EL nI K Q W h' cl sl (pc + 3) L rest) : Run Z EL nI K Q W h cl sl pc L (.int nn :: .int dp :: .ref b :: .int sp :: .ref a :: rest) := fun T X => by
  obtain ⟨vm0, k0, locs, X1, X2, X3, X4, X5, X6, X7, X8, X9, X10⟩ := X
  have hown := hK.fc X2
  obtain ⟨hx, rfl, rfl, rfl, rfl, -⟩ := id hK
  obtain ⟨T', h', L', Y, eY, N, Kp, B', st⟩ := cpA X1 hx (show Z.Warmed39 (K.s.setVm vm0).vm from X4) hown w1 w2 w3 w4 X7 A B (Or.inr ⟨rfl, rfl, hst⟩) h1 h2 h3 h4 h5 hus hl X8 ge (g := mkF K.m pc L (.int nn :: .int dp :: .ref b :: .int sp :: .ref a :: rest)) rfl hsz rfl hd hf (W := Wt) (by show 2 * 0 + _ ≤ _; omega) hlo
  have hws : ∀ x ∈ [b], Safe Z EL vm0 h x := fun x hx => by cases List.mem_singleton.mp hx; exact hs vm0 X4 X6
  have Cr := CHr.keep Kp hws X5.1
  obtain ⟨s2, v, Lo, g, r⟩ := k h' Kp B' T' ⟨vm0, k0, L', Y, X2, Nat.le_trans X3 Kp.1, X4, X5.trans Cr, fun x hx => ⟨Nat.lt_of_lt_of_le (X6 x hx).1 Kp.1, Cr.safe (X6 x hx).1 (X6 x hx).2⟩, eY, N, X9, (Old.keep (Z := Z) (n0 := Z.heap.size) ⟨rfl, X10⟩ Kp (fun x hx => by cases List.mem_singleton.mp hx; exact ge)).2⟩
  exact ⟨s2, v, Lo, st _ g, r⟩
/-- an object of C is none of M: C's superclass is D, D's is E, E's is O, which has none -/
theorem ins_no3 {D E O M : String} {n : Nat} (v0 : (Jvm.Cond.superclass C D).before a0 Z = true) (w0 : (Jvm.Cond.superclass D E).before a0 Z = true) (w1 : (Jvm.Cond.superclass E O).before a0 Z = true) (w2 : (Jvm.Cond.noSuperclass O).before a0 Z = true) (wi : (Jvm.Cond.instantiable M n).before a0 Z = true) (g0 : C ≠ M) (g1 : D ≠ M) (g2 : E ≠ M) (g3 : O ≠ M) (F : Exa Z h a C) : Ins Z h a M false := by
  obtain ⟨t, kt, t1, t2, t3, t4, -⟩ := Cond.instantiable_spec wi
  obtain ⟨c, h0⟩ := found_sup v0
  obtain ⟨d, k0, kd, u1, u2, u3, u4, u5, u6, u7⟩ := Cond.superclass_spec h0 v0
  obtain ⟨e, k1, ke, r1, r2, r3, r4, r5, r6, r7⟩ := Cond.superclass_spec u1 w0
  obtain ⟨p, k2, kp, s1, s2, s3, s4, s5, s6, s7⟩ := Cond.superclass_spec r1 w1
  obtain ⟨p', kp', q1, q2, q3, q4, q5⟩ := Cond.noSuperclass_spec w2
  cases s1.symm.trans q1
  obtain ⟨cell, kc, e1, e2, e3, e4, -⟩ := F
  cases h0.symm.trans e2
  have n0 := ids_ne h0 t1 g0
  have n1 := ids_ne u1 t1 g1
  have n2 := ids_ne r1 t1 g2
  have n3 := ids_ne s1 t1 g3
  have m3 : ∀ fuel, Z.vm.isSubclassAux fuel p t = false := fun fuel => by
    cases fuel with
    | zero => rfl
    | succ f => simp [Vm.isSubclassAux, n3, q2, q3]
  have m2 : ∀ fuel, Z.vm.isSubclassAux fuel e t = false := fun fuel => by
    cases fuel with
    | zero => rfl
    | succ f => simp [Vm.isSubclassAux, n2, s2, s4, m3]
  have m1 : ∀ fuel, Z.vm.isSubclassAux fuel d t = false := fun fuel => by
    cases fuel with
    | zero => rfl
    | succ f => simp [Vm.isSubclassAux, n1, r2, r4, m2]
  have m0 : ∀ fuel, Z.vm.isSubclassAux fuel cell.cls t = false := fun fuel => by
    cases fuel with
    | zero => rfl
    | succ f => simp [Vm.isSubclassAux, n0, u2, u4, m1]
  have ti : kt.isInterface = false := by cases q : kt.isInterface <;> simp [q] at t4 ⊢
  refine ⟨cell, t, e1, t1, ?_⟩
  have : Z.vm.assignable cell.cls t = false := by
    show Z.vm.assignableAux (255 + 1) cell.cls t = false
    simp [Vm.assignableAux, n0, u2, t2, u5, t3, ti, Vm.isSubclass, m0]
  rw [this]; simp
theorem Run.getsN (hK : Ok Z EL a0 l own nm bytes ml ret R K) {R0 O n d host : String} (w : (Jvm.Cond.fieldLinkNest own index R0 n d host).before a0 Z = true) (via : Via Z R0 O n d) {v : Value} (F : Sta Z h O n d v) (hd : decode bytes pc = .ok (.getstatic index, 3)) (k : Run Z EL nI K Q W h cl sl (pc + 3) L (v :: S)) : Run Z EL nI K Q W h cl sl pc L S := by
  obtain ⟨hx, rfl, rfl, rfl, rfl, -⟩ := id hK
  refine Run.same hK (fun T vm0 locs X hZ hown e => ?_) k
  exact getS2 X hx hZ hown (Or.inr w) via e F (g := mkF K.m pc L S) rfl hd
end Lst
end Jvm.OwnK
/- laws to paste: Road.backV, Road.codOf (cut by pick.py; bodies as the Statement names them) -/
namespace Jvm.Pilot.@@N@@
namespace StrChars
open Jvm Sem ClassFile Op Lib Jvm.Stand Jvm.Free.XT Jvm.Free.ALB Jvm.Free.JM Jvm.Free
open Jvm.Lib.Cold (StaticIs)
/-- a char array whose places are chars -/
def Ch (a : Addr) (A : Cell) (U : State) : Prop := Arr .char a A U ∧ Typed .char A
theorem Ch.mv {a : Addr} {A : Cell} {U U' : State} (h : Ch a A U) (hal : U.vm.Alike U'.vm) (hh : U'.heap = U.heap) : Ch a A U' := ⟨h.1.mv hal hh, h.2⟩
theorem Ch.keep {a : Addr} {A : Cell} {U U' : State} (h : Ch a A U) (hal : U.vm.Alike U'.vm) (hk : U'.heap[a]? = some A) : Ch a A U' := ⟨h.1.keep hal hk, h.2⟩
/-- what place i of a char[]'s cell holds -/
def cv (A : Cell) (i : Nat) : Int32 := match A.slots[i]? with | some (.int x) => x | _ => 0
theorem Ch.get {a : Addr} {A : Cell} {U : State} (h : Ch a A U) {i : Nat} (hi : i < A.slots.size) : A.slots[i]? = some (.int (cv A i)) := by
  have e := Array.getElem?_eq_getElem hi
  have f := h.2 i _ e
  unfold cv; rw [e]
  generalize A.slots[i] = v at f
  cases v <;> simp [fits] at f ⊢
/-- the byte that i2b leaves of a char -/
def lo8 (x : Int32) : Int32 := x.toInt8.toInt32
theorem fits_lo8 (y : Int32) : fits .byte (.int (lo8 y)) = true := by
  have h1 := y.toInt8.le_toInt
  have h2 := y.toInt8.toInt_lt
  simp only [lo8, fits, Bool.and_eq_true, decide_eq_true_eq, Int32.le_iff_toInt_le, Int8.toInt_toInt32, show (-128 : Int32).toInt = -128 from by decide, show (127 : Int32).toInt = 127 from by decide]
  omega
/-- A' is A but that each place j of lo .. hi - 1 holds f j -/
def Laid (A A' : Cell) (lo hi : Nat) (f : Nat → Value) : Prop := A'.cls = A.cls ∧ A'.vm = A.vm ∧ A'.slots.size = A.slots.size ∧ ∀ i, A'.slots[i]? = if lo ≤ i ∧ i < hi then some (f i) else A.slots[i]?
theorem Laid.zero (A : Cell) (lo : Nat) (f : Nat → Value) : Laid A A lo (lo + 0) f := ⟨rfl, rfl, rfl, fun i => by rw [if_neg (by omega)]⟩
theorem Laid.step {A Ak : Cell} {lo k : Nat} {f : Nat → Value} {v : Value} (h : Laid A Ak lo k f) (hlo : lo ≤ k) (hk : k < Ak.slots.size) (hv : v = f k) : Laid A (Ak.setSlot k v) lo (k + 1) f := by
  refine ⟨h.1, h.2.1, by simpa [Cell.setSlot] using h.2.2.1, fun i => ?_⟩
  by_cases e : k = i
  · subst e; rw [Cell.slots_setSlot_self v hk, if_pos (by omega), hv]
  · rw [Cell.slots_setSlot_ne v e, h.2.2.2 i]
    by_cases q : lo ≤ i ∧ i < k
    · rw [if_pos q, if_pos (by omega)]
    · rw [if_neg q, if_neg (by omega)]
def U16 : String := "java/lang/StringUTF16"
namespace Cmp5
def yN : MethodName := ⟨"java/lang/StringUTF16", "compress", "([CI[BII)I"⟩
abbrev yB : ByteArray := jdk_52_method_21_code
theorem d0 : decode yB 0 = .ok (.iconst 0, 1) := by decide +kernel
theorem d1 : decode yB 1 = .ok (.istore 5, 2) := by decide +kernel
theorem d3 : decode yB 3 = .ok (.iload 5, 2) := by decide +kernel
theorem d5 : decode yB 5 = .ok (.iload 4, 2) := by decide +kernel
theorem d7 : decode yB 7 = .ok (.if_icmp (.ge) 37, 3) := by decide +kernel
theorem d10 : decode yB 10 = .ok (.aload_n 0, 1) := by decide +kernel
theorem d11 : decode yB 11 = .ok (.iload_n 1, 1) := by decide +kernel
theorem d12 : decode yB 12 = .ok (.caload, 1) := by decide +kernel
theorem d13 : decode yB 13 = .ok (.istore 6, 2) := by decide +kernel
theorem d15 : decode yB 15 = .ok (.iload 6, 2) := by decide +kernel
theorem d17 : decode yB 17 = .ok (.sipush 255, 3) := by decide +kernel
theorem d20 : decode yB 20 = .ok (.if_icmp (.le) 6, 3) := by decide +kernel
theorem d26 : decode yB 26 = .ok (.aload_n 2, 1) := by decide +kernel
theorem d27 : decode yB 27 = .ok (.iload_n 3, 1) := by decide +kernel
theorem d28 : decode yB 28 = .ok (.iload 6, 2) := by decide +kernel
theorem d30 : decode yB 30 = .ok (.i2b, 1) := by decide +kernel
theorem d31 : decode yB 31 = .ok (.bastore, 1) := by decide +kernel
theorem d32 : decode yB 32 = .ok (.iinc 1 1, 3) := by decide +kernel
theorem d35 : decode yB 35 = .ok (.iinc 3 1, 3) := by decide +kernel
theorem d38 : decode yB 38 = .ok (.iinc 5 1, 3) := by decide +kernel
theorem d41 : decode yB 41 = .ok (.goto (-38), 3) := by decide +kernel
theorem d44 : decode yB 44 = .ok (.iload 4, 2) := by decide +kernel
theorem d46 : decode yB 46 = .ok (.ireturn, 1) := by decide +kernel
def site : List Cond := []
def tab : Cond := tabOf yN yB 7 (some .int) site
def P (b : Addr) (A : Cell) (d : Addr) (B : Cell) (o q len : Nat) (args : Array Value) (s : State) : Prop := args = #[.ref b, .int (Int32.ofNat o), .ref d, .int (Int32.ofNat q), .int (Int32.ofNat len)] ∧ Ch b A s ∧ Arr .byte d B s ∧ b ≠ d ∧ o + len ≤ A.slots.size ∧ q + len ≤ B.slots.size ∧ ∀ i, i < len → ¬ 255 < cv A (o + i)
def E (b : Addr) (A : Cell) (d : Addr) (B : Cell) (o q len : Nat) (r : Option Value) (s u : State) : Prop := r = some (.int (Int32.ofNat len)) ∧ ∃ B', Put d B' s u ∧ Laid B B' q (q + len) (fun j => Value.int (lo8 (cv A (o + (j - q)))))
/-- no char of the range above 255: len; the places written hold each char's low byte -/
theorem law (l : Launch) (b : Addr) (A : Cell) (d : Addr) (B : Cell) (o q len : Nat) : Law l yN 5 5 0 0 yB 7 (some .int) site (P b A d B o q len) (E b A d B o q len) (copyLocs d q len) 0 0 := by
  refine Law.of_walk (plainFor_of_name (by decide +kernel)) (by decide +kernel) (by decide +kernel) (by decide) (fun _ _ h => by rw [h.1]; rfl) (fun _ U U' hal hh h => ⟨h.1, h.2.1.mv hal hh, h.2.2.1.mv hal hh, h.2.2.2⟩) (fun r U U' V V' h1 hal h2 h => ⟨h.1, h.2.elim fun B' q => ⟨B', q.1.mv h1 h2, q.2⟩⟩) ?_
  intro p e s m args below meth c s₁ X0 hexec hbytes hml hret hlk hnm hown hh0 W hP
  obtain ⟨rfl, hA, hB, hne, l1, l2, hp⟩ := hP
  have c1 : Steps p.tables e below (s₁.setTop (entryFrame m #[.ref b, .int (Int32.ofNat o), .ref d, .int (Int32.ofNat q), .int (Int32.ofNat len)] 7)) (s₁.setTop (mkF m 0 #[.val (.ref b), .val (.int (Int32.ofNat o)), .val (.ref d), .val (.int (Int32.ofNat q)), .val (.int (Int32.ofNat len)), .unset, .unset] [])) := entry rfl
  have hA0 := hA.1.mv X0.warmed.alike hh0
  have hB0 := hB.mv X0.warmed.alike hh0
  have a31 := hA.1.2.2.2
  have c2 : Steps p.tables e below (s₁.setTop (entryFrame m #[.ref b, .int (Int32.ofNat o), .ref d, .int (Int32.ofNat q), .int (Int32.ofNat len)] 7)) (s₁.setTop (mkF m 3 #[.val (.ref b), .val (.int (Int32.ofNat o)), .val (.ref d), .val (.int (Int32.ofNat q)), .val (.int (Int32.ofNat len)), .val (.int 0), .unset] [])) := c1.trans (by
    refine iconstV X0.here hexec rfl 0 (hb hbytes d0) (by decide) ?_
    refine XS.istore X0.here hexec rfl (hb hbytes d1) rfl rfl ?_
    exact Steps.refl _)
  have loop : ∀ (r i : Nat), i + r = len → ∀ (z : Slot), (z = .unset ∨ ∃ w, z = .val w ∧ w.category = 1) → ∀ (Tl : State) (Bk : Cell), Stand p l e { frames := 0, locals := 0, cells := 0, slots := 0 } s m #[.ref b, .int (Int32.ofNat o), .ref d, .int (Int32.ofNat q), .int (Int32.ofNat len)] below meth c Tl ([] ++ copyLocs d q i) 0 0 → Put d Bk s₁ Tl → Laid B Bk q (q + i) (fun j => Value.int (lo8 (cv A (o + (j - q))))) →
      Steps p.tables e below (s₁.setTop (entryFrame m #[.ref b, .int (Int32.ofNat o), .ref d, .int (Int32.ofNat q), .int (Int32.ofNat len)] 7)) (Tl.setTop (mkF m 3 #[.val (.ref b), .val (.int (Int32.ofNat (o + i))), .val (.ref d), .val (.int (Int32.ofNat (q + i))), .val (.int (Int32.ofNat len)), .val (.int (Int32.ofNat i)), z] [])) → ∃ (T' : State) (B' : Cell) (z' : Slot), Stand p l e { frames := 0, locals := 0, cells := 0, slots := 0 } s m #[.ref b, .int (Int32.ofNat o), .ref d, .int (Int32.ofNat q), .int (Int32.ofNat len)] below meth c T' ([] ++ copyLocs d q len) 0 0 ∧ Put d B' s₁ T' ∧ Laid B B' q (q + len) (fun j => Value.int (lo8 (cv A (o + (j - q))))) ∧
      Steps p.tables e below (s₁.setTop (entryFrame m #[.ref b, .int (Int32.ofNat o), .ref d, .int (Int32.ofNat q), .int (Int32.ofNat len)] 7)) (T'.setTop (mkF m 3 #[.val (.ref b), .val (.int (Int32.ofNat (o + len))), .val (.ref d), .val (.int (Int32.ofNat (q + len))), .val (.int (Int32.ofNat len)), .val (.int (Int32.ofNat len)), z'] [])) := by
    intro r
    induction r with
    | zero =>
      intro i hi z hz Tl Bk Xl pl fl cl
      have hil : i = len := by omega
      rw [hil] at Xl fl cl
      exact ⟨Tl, Bk, z, Xl, pl, fl, cl⟩
    | succ r ih =>
      intro i hi z hz Tl Bk Xl pl fl cl
      have all := X0.warmed.alike.symm.trans Xl.warmed.alike
      have hAl := hA0.keep all (pl.other hne hA0.1)
      have hBk := hB0.like all pl.1 fl.1 fl.2.1 fl.2.2.1
      have hlt : q + i < Bk.slots.size := by rw [fl.2.2.1]; omega
      have c3 : Steps p.tables e below (s₁.setTop (entryFrame m #[.ref b, .int (Int32.ofNat o), .ref d, .int (Int32.ofNat q), .int (Int32.ofNat len)] 7)) (Tl.setTop (mkF m 12 #[.val (.ref b), .val (.int (Int32.ofNat (o + i))), .val (.ref d), .val (.int (Int32.ofNat (q + i))), .val (.int (Int32.ofNat len)), .val (.int (Int32.ofNat i)), z] [.int (Int32.ofNat (o + i)), .ref b])) := cl.trans (by
        refine XS.iload Xl.here hexec rfl (hb hbytes d3) rfl ?_
        refine XS.iload Xl.here hexec rfl (hb hbytes d5) rfl ?_
        refine XS.icmpNo Xl.here hexec rfl (hb hbytes d7) rfl (ii_ge_f (lt32 (by omega) (by omega))) ?_
        refine XS.aloadN Xl.here hexec rfl (hb hbytes d10) rfl rfl ?_
        refine XS.iloadN Xl.here hexec rfl (hb hbytes d11) rfl ?_
        exact Steps.refl _)
      have c4 : Steps p.tables e below (s₁.setTop (entryFrame m #[.ref b, .int (Int32.ofNat o), .ref d, .int (Int32.ofNat q), .int (Int32.ofNat len)] 7)) (Tl.setTop (mkF m 13 #[.val (.ref b), .val (.int (Int32.ofNat (o + i))), .val (.ref d), .val (.int (Int32.ofNat (q + i))), .val (.int (Int32.ofNat len)), .val (.int (Int32.ofNat i)), z] [.int (cv A (o + i))])) := c3.trans (by
        refine Xl.aget hexec hAl rfl (hA.get (i := o + i) (by omega)) rfl rfl (hb hbytes d12) ?_
        exact Steps.refl _)
      have c5 : Steps p.tables e below (s₁.setTop (entryFrame m #[.ref b, .int (Int32.ofNat o), .ref d, .int (Int32.ofNat q), .int (Int32.ofNat len)] 7)) (Tl.setTop (mkF m 15 #[.val (.ref b), .val (.int (Int32.ofNat (o + i))), .val (.ref d), .val (.int (Int32.ofNat (q + i))), .val (.int (Int32.ofNat len)), .val (.int (Int32.ofNat i)), .val (.int (cv A (o + i)))] [])) := c4.trans (by
        refine XS.istoreS Xl.here hexec rfl (hb hbytes d13) rfl rfl hz ?_
        exact Steps.refl _)
      have c6 : Steps p.tables e below (s₁.setTop (entryFrame m #[.ref b, .int (Int32.ofNat o), .ref d, .int (Int32.ofNat q), .int (Int32.ofNat len)] 7)) (Tl.setTop (mkF m 31 #[.val (.ref b), .val (.int (Int32.ofNat (o + i))), .val (.ref d), .val (.int (Int32.ofNat (q + i))), .val (.int (Int32.ofNat len)), .val (.int (Int32.ofNat i)), .val (.int (cv A (o + i)))] [.int (lo8 (cv A (o + i))), .int (Int32.ofNat (q + i)), .ref d])) := c5.trans (by
        refine XS.iload Xl.here hexec rfl (hb hbytes d15) rfl ?_
        refine sipushV Xl.here hexec rfl 255 (hb hbytes d17) (by decide) ?_
        refine XS.icmpYes Xl.here hexec rfl (pc0 := 20) rfl (hb hbytes d20) rfl (ii_le_t (hp i (by omega))) (by decide) rfl ?_
        refine XS.aloadN Xl.here hexec rfl (hb hbytes d26) rfl rfl ?_
        refine XS.iloadN Xl.here hexec rfl (hb hbytes d27) rfl ?_
        refine XS.iload Xl.here hexec rfl (hb hbytes d28) rfl ?_
        refine i2b Xl.here hexec rfl (hb hbytes d30) rfl ?_
        exact Steps.refl _)
      obtain ⟨T7, X7, p7, st7⟩ := Xl.aput hexec hBk rfl hlt rfl (fits_lo8 (cv A (o + i))) (g := (mkF m 31 #[.val (.ref b), .val (.int (Int32.ofNat (o + i))), .val (.ref d), .val (.int (Int32.ofNat (q + i))), .val (.int (Int32.ofNat len)), .val (.int (Int32.ofNat i)), .val (.int (cv A (o + i)))] [.int (lo8 (cv A (o + i))), .int (Int32.ofNat (q + i)), .ref d])) rfl (rest := []) rfl (hb hbytes d31)
      have c8 : Steps p.tables e below (s₁.setTop (entryFrame m #[.ref b, .int (Int32.ofNat o), .ref d, .int (Int32.ofNat q), .int (Int32.ofNat len)] 7)) (T7.setTop (mkF m 32 #[.val (.ref b), .val (.int (Int32.ofNat (o + i))), .val (.ref d), .val (.int (Int32.ofNat (q + i))), .val (.int (Int32.ofNat len)), .val (.int (Int32.ofNat i)), .val (.int (cv A (o + i)))] [])) := c6.trans (st7 _ (Steps.refl _))
      have c9 : Steps p.tables e below (s₁.setTop (entryFrame m #[.ref b, .int (Int32.ofNat o), .ref d, .int (Int32.ofNat q), .int (Int32.ofNat len)] 7)) (T7.setTop (mkF m 3 #[.val (.ref b), .val (.int (Int32.ofNat (o + i) + 1)), .val (.ref d), .val (.int (Int32.ofNat (q + i) + 1)), .val (.int (Int32.ofNat len)), .val (.int (Int32.ofNat i + 1)), .val (.int (cv A (o + i)))] [])) := c8.trans (by
        refine iincV X7.here hexec rfl 1 (hb hbytes d32) (by decide) rfl rfl ?_
        refine iincV X7.here hexec rfl 1 (hb hbytes d35) (by decide) rfl rfl ?_
        refine iincV X7.here hexec rfl 1 (hb hbytes d38) (by decide) rfl rfl ?_
        refine XS.goto X7.here hexec rfl (pc0 := 41) rfl (hb hbytes d41) (by decide) rfl ?_
        exact Steps.refl _)
      have c10 : Steps p.tables e below (s₁.setTop (entryFrame m #[.ref b, .int (Int32.ofNat o), .ref d, .int (Int32.ofNat q), .int (Int32.ofNat len)] 7)) (T7.setTop (mkF m 3 #[.val (.ref b), .val (.int (Int32.ofNat (o + (i + 1)))), .val (.ref d), .val (.int (Int32.ofNat (q + (i + 1)))), .val (.int (Int32.ofNat len)), .val (.int (Int32.ofNat (i + 1))), .val (.int (cv A (o + i)))] [])) := by
        have := c9
        rw [succ32, succ32, succ32] at this
        exact this
      exact ih (i + 1) (by omega) _ (Or.inr ⟨_, rfl, rfl⟩) T7 _ (by rw [copyLocs_step, ← List.append_assoc]; exact X7) (pl.trans p7) (fl.step (by omega) hlt (by simp)) c10
  obtain ⟨T9, B9, z9, X9, p9, f9, g9⟩ := loop len 0 (by omega) .unset (Or.inl rfl) s₁ B (by simpa [copyLocs] using X0) ⟨hB0.1, fun _ _ => rfl, rfl⟩ (Laid.zero _ _ _) c2
  have c11 : Steps p.tables e below (s₁.setTop (entryFrame m #[.ref b, .int (Int32.ofNat o), .ref d, .int (Int32.ofNat q), .int (Int32.ofNat len)] 7)) (T9.setTop (mkF m 46 #[.val (.ref b), .val (.int (Int32.ofNat (o + len))), .val (.ref d), .val (.int (Int32.ofNat (q + len))), .val (.int (Int32.ofNat len)), .val (.int (Int32.ofNat len)), z9] [.int (Int32.ofNat len)])) := g9.trans (by
    refine XS.iload X9.here hexec rfl (hb hbytes d3) rfl ?_
    refine XS.iload X9.here hexec rfl (hb hbytes d5) rfl ?_
    refine XS.icmpYes X9.here hexec rfl (pc0 := 7) rfl (hb hbytes d7) rfl (ii_ge_t (nlt32 (by omega) (Nat.le_refl _))) (by decide) rfl ?_
    refine XS.iload X9.here hexec rfl (hb hbytes d44) rfl ?_
    exact Steps.refl _)
  exact ⟨T9, some (.int (Int32.ofNat len)), _, _, _, X9, by simp, rfl, rfl, (fun h => by cases h), ⟨rfl, B9, p9.from hh0, f9⟩, fun fs hl => c11.trans (X9.ireturnOut hexec hret rfl (Or.inl rfl) (hb hbytes d46) hl)⟩
end Cmp5
namespace Cmp3
def yN : MethodName := ⟨"java/lang/StringUTF16", "compress", "([CII)[B"⟩
abbrev yB : ByteArray := jdk_52_method_16_code
theorem d0 : decode yB 0 = .ok (.iload_n 2, 1) := by decide +kernel
theorem d1 : decode yB 1 = .ok (.newarray .byte, 2) := by decide +kernel
theorem d3 : decode yB 3 = .ok (.astore_n 3, 1) := by decide +kernel
theorem d4 : decode yB 4 = .ok (.aload_n 0, 1) := by decide +kernel
theorem d5 : decode yB 5 = .ok (.iload_n 1, 1) := by decide +kernel
theorem d6 : decode yB 6 = .ok (.aload_n 3, 1) := by decide +kernel
theorem d7 : decode yB 7 = .ok (.iconst 0, 1) := by decide +kernel
theorem d8 : decode yB 8 = .ok (.iload_n 2, 1) := by decide +kernel
theorem d9 : decode yB 9 = .ok (.invokestatic 115, 3) := by decide +kernel
theorem d12 : decode yB 12 = .ok (.istore 4, 2) := by decide +kernel
theorem d14 : decode yB 14 = .ok (.iload 4, 2) := by decide +kernel
theorem d16 : decode yB 16 = .ok (.iload_n 2, 1) := by decide +kernel
theorem d17 : decode yB 17 = .ok (.if_icmp (.eq) 40, 3) := by decide +kernel
theorem d57 : decode yB 57 = .ok (.aload_n 3, 1) := by decide +kernel
theorem d58 : decode yB 58 = .ok (.areturn, 1) := by decide +kernel
def site : List Cond := [.arrayClass .byte, Cmp5.tab] ++ staticW U16 115 Cmp5.yN
def tab : Cond := tabOf yN yB 6 (some (.array .byte)) site
def P (b : Addr) (A : Cell) (o len : Nat) (args : Array Value) (s : State) : Prop := args = #[.ref b, .int (Int32.ofNat o), .int (Int32.ofNat len)] ∧ Ch b A s ∧ o + len ≤ A.slots.size ∧ len ≤ 536870912 ∧ ∀ i, i < len → ¬ 255 < cv A (o + i)
def E (b : Addr) (A : Cell) (o len : Nat) (r : Option Value) (s u : State) : Prop := NewArr .byte "[B" len (fun j => .int (lo8 (cv A (o + j)))) r s u ∧ u.heap.size = s.heap.size + 1
/-- no char of the range above 255: a new byte[] of their low bytes -/
theorem law (l : Launch) (b : Addr) (A : Cell) (o len : Nat) : Law l yN 3 3 1 18 yB 6 (some (.array .byte)) site (P b A o len) (E b A o len) [] 1 len := by
  refine Law.of_walk (plainFor_of_name (by decide +kernel)) (by decide +kernel) (by decide +kernel) (by decide) (fun _ _ h => by rw [h.1]; rfl) (fun _ U U' hal hh h => ⟨h.1, h.2.1.mv hal hh, h.2.2⟩) (fun r U U' V V' h1 hal h2 h => ⟨NewArr.mv r U U' V V' h1 hal h2 h.1, by rw [h1, h2]; exact h.2⟩) ?_
  intro p e s m args below meth c s₁ X0 hexec hbytes hml hret hlk hnm hown hh0 W hP
  obtain ⟨rfl, hA, l1, l2, hp⟩ := hP
  have a31 := hA.1.2.2.2
  have c1 : Steps p.tables e below (s₁.setTop (entryFrame m #[.ref b, .int (Int32.ofNat o), .int (Int32.ofNat len)] 6)) (s₁.setTop (mkF m 0 #[.val (.ref b), .val (.int (Int32.ofNat o)), .val (.int (Int32.ofNat len)), .unset, .unset, .unset] [])) := entry rfl
  have c2 : Steps p.tables e below (s₁.setTop (entryFrame m #[.ref b, .int (Int32.ofNat o), .int (Int32.ofNat len)] 6)) (s₁.setTop (mkF m 1 #[.val (.ref b), .val (.int (Int32.ofNat o)), .val (.int (Int32.ofNat len)), .unset, .unset, .unset] [.int (Int32.ofNat len)])) := c1.trans (by
    refine XS.iloadN X0.here hexec rfl (hb hbytes d0) rfl ?_
    exact Steps.refl _)
  obtain ⟨T3, B3, X3, ba3, bs3, bv3, bh3, bf3, st3⟩ := X0.anew hexec (atype := .byte) (wk W (.arrayClass .byte)) rfl (by show len * 1 ≤ _; omega) (by omega) (g := (mkF m 1 #[.val (.ref b), .val (.int (Int32.ofNat o)), .val (.int (Int32.ofNat len)), .unset, .unset, .unset] [.int (Int32.ofNat len)])) rfl (hb hbytes d1) (rest := []) rfl (Nat.le_refl _) (by show 0 + len ≤ len; omega)
  rw [hh0] at ba3 st3
  have kp3 : XT.Kept s T3 := (XT.Kept.of_eq hh0).push bh3
  have hA3 := hA.keep X3.warmed.alike (kp3 _ _ hA.1.1)
  have hne : b ≠ s.heap.size := hA.1.ne
  have c4 : Steps p.tables e below (s₁.setTop (entryFrame m #[.ref b, .int (Int32.ofNat o), .int (Int32.ofNat len)] 6)) (T3.setTop (mkF m 3 #[.val (.ref b), .val (.int (Int32.ofNat o)), .val (.int (Int32.ofNat len)), .unset, .unset, .unset] [.ref s.heap.size])) := c2.trans (st3 _ (Steps.refl _))
  have c5 : Steps p.tables e below (s₁.setTop (entryFrame m #[.ref b, .int (Int32.ofNat o), .int (Int32.ofNat len)] 6)) (T3.setTop (mkF m 9 #[.val (.ref b), .val (.int (Int32.ofNat o)), .val (.int (Int32.ofNat len)), .val (.ref s.heap.size), .unset, .unset] [.int (Int32.ofNat len), .int 0, .ref s.heap.size, .int (Int32.ofNat o), .ref b])) := c4.trans (by
    refine XS.astoreN X3.here hexec rfl (hb hbytes d3) rfl rfl rfl ?_
    refine XS.aloadN X3.here hexec rfl (hb hbytes d4) rfl rfl ?_
    refine XS.iloadN X3.here hexec rfl (hb hbytes d5) rfl ?_
    refine XS.aloadN X3.here hexec rfl (hb hbytes d6) rfl rfl ?_
    refine iconstV X3.here hexec rfl 0 (hb hbytes d7) (by decide) ?_
    refine XS.iloadN X3.here hexec rfl (hb hbytes d8) rfl ?_
    exact Steps.refl _)
  obtain ⟨v6, T6, X6, E6, g6⟩ := X3.callS hexec (Cmp5.law l b A s.heap.size B3 o 0 len) hown (wks W (staticW U16 115 Cmp5.yN)) (wk W Cmp5.tab) (W := 0) (Nat.le_of_ble_eq_true rfl) (Nat.le_of_ble_eq_true rfl) (Nat.le_refl _) (by show 0 + len + 0 ≤ len; omega) (g := (mkF m 9 #[.val (.ref b), .val (.int (Int32.ofNat o)), .val (.int (Int32.ofNat len)), .val (.ref s.heap.size), .unset, .unset] [.int (Int32.ofNat len), .int (Int32.ofNat 0), .ref s.heap.size, .int (Int32.ofNat o), .ref b])) rfl (by rw [hml]; rfl) c5 (argsL := [.ref b, .int (Int32.ofNat o), .ref s.heap.size, .int (Int32.ofNat 0), .int (Int32.ofNat len)]) (rest := []) rfl rfl (by show 2 * 0 + 0 ≤ _; decide) (hb hbytes d9) (⟨rfl, hA3, ba3, hne, l1, by rw [bs3]; simp, hp⟩)
  obtain ⟨rfl, B6, p6, f6⟩ := E6
  have c7 : Steps p.tables e below (s₁.setTop (entryFrame m #[.ref b, .int (Int32.ofNat o), .int (Int32.ofNat len)] 6)) (T6.setTop (mkF m 12 #[.val (.ref b), .val (.int (Int32.ofNat o)), .val (.int (Int32.ofNat len)), .val (.ref s.heap.size), .unset, .unset] [.int (Int32.ofNat len)])) := g6
  have c8 : Steps p.tables e below (s₁.setTop (entryFrame m #[.ref b, .int (Int32.ofNat o), .int (Int32.ofNat len)] 6)) (T6.setTop (mkF m 58 #[.val (.ref b), .val (.int (Int32.ofNat o)), .val (.int (Int32.ofNat len)), .val (.ref s.heap.size), .val (.int (Int32.ofNat len)), .unset] [.ref s.heap.size])) := c7.trans (by
    refine XS.istore X6.here hexec rfl (hb hbytes d12) rfl rfl ?_
    refine XS.iload X6.here hexec rfl (hb hbytes d14) rfl ?_
    refine XS.iloadN X6.here hexec rfl (hb hbytes d16) rfl ?_
    refine XS.icmpYes X6.here hexec rfl (pc0 := 17) rfl (hb hbytes d17) rfl (ii_eq_t rfl) (by decide) rfl ?_
    refine XS.aloadN X6.here hexec rfl (hb hbytes d57) rfl rfl ?_
    exact Steps.refl _)
  have X8 := X6.wide (L' := []) (cells' := 1) (slots' := len) (fun x hx hlt => by
    simp only [List.nil_append, copyLocs, List.mem_map, List.mem_range] at hx
    obtain ⟨i, -, rfl⟩ := hx
    exact absurd hlt (Nat.lt_irrefl _)) (Nat.le_refl _) (by omega)
  exact ⟨T6, some (.ref s.heap.size), _, _, _, X8, rfl, rfl, rfl, (fun h => by cases h), ⟨⟨rfl, B6, ba3.like (X3.warmed.alike.symm.trans X6.warmed.alike) p6.1 f6.1 f6.2.1 f6.2.2.1, f6.2.1.trans bv3, by rw [X6.warmed.alike.findClass, f6.1]; exact bf3, by rw [f6.2.2.1, bs3]; simp, fun j hj => by rw [f6.2.2.2 j, if_pos (by omega)]; rfl, kp3.put p6 (Nat.le_refl _)⟩, by rw [p6.2.2, bh3, hh0]; simp⟩, fun fs hl => c8.trans (X8.areturnOut hexec rfl hret rfl (hb hbytes d58) hl)⟩
end Cmp3
namespace CodL
def yN : MethodName := ⟨"java/lang/StringUTF16", "coderFromArrayLen", "([BI)B"⟩
abbrev yB : ByteArray := jdk_52_method_15_code
theorem d0 : decode yB 0 = .ok (.iload_n 1, 1) := by decide +kernel
theorem d1 : decode yB 1 = .ok (.aload_n 0, 1) := by decide +kernel
theorem d2 : decode yB 2 = .ok (.arraylength, 1) := by decide +kernel
theorem d3 : decode yB 3 = .ok (.isub, 1) := by decide +kernel
theorem d4 : decode yB 4 = .ok (.bipush 31, 2) := by decide +kernel
theorem d6 : decode yB 6 = .ok (.iushr, 1) := by decide +kernel
theorem d7 : decode yB 7 = .ok (.i2b, 1) := by decide +kernel
theorem d8 : decode yB 8 = .ok (.ireturn, 1) := by decide +kernel
def site : List Cond := []
def tab : Cond := tabOf yN yB 2 (some .byte) site
def P (d : Addr) (B : Cell) (args : Array Value) (s : State) : Prop := args = #[.ref d, .int (Int32.ofNat B.slots.size)] ∧ Arr .byte d B s
def E (r : Option Value) (s u : State) : Prop := XT.PureE (some (.int 0)) r s u
/-- an array as long as the number of chars: LATIN1 -/
theorem law (l : Launch) (d : Addr) (B : Cell) : Law l yN 2 2 0 0 yB 2 (some .byte) site (P d B) E [] 0 0 := by
  refine Law.of_walk (plainFor_of_name (by decide +kernel)) (by decide +kernel) (by decide +kernel) (by decide) (fun _ _ h => by rw [h.1]; rfl) (fun _ U U' hal hh h => ⟨h.1, h.2.mv hal hh⟩) (fun r U U' V V' h1 hal h2 h => XT.PureE.mv r U U' V V' h1 hal h2 h) ?_
  intro p e s m args below meth c s₁ X0 hexec hbytes hml hret hlk hnm hown hh0 W hP
  obtain ⟨rfl, hB⟩ := hP
  have hB0 := hB.mv X0.warmed.alike hh0
  have c1 : Steps p.tables e below (s₁.setTop (entryFrame m #[.ref d, .int (Int32.ofNat B.slots.size)] 2)) (s₁.setTop (mkF m 0 #[.val (.ref d), .val (.int (Int32.ofNat B.slots.size))] [])) := entry rfl
  have c2 : Steps p.tables e below (s₁.setTop (entryFrame m #[.ref d, .int (Int32.ofNat B.slots.size)] 2)) (s₁.setTop (mkF m 2 #[.val (.ref d), .val (.int (Int32.ofNat B.slots.size))] [.ref d, .int (Int32.ofNat B.slots.size)])) := c1.trans (by
    refine XS.iloadN X0.here hexec rfl (hb hbytes d0) rfl ?_
    refine XS.aloadN X0.here hexec rfl (hb hbytes d1) rfl rfl ?_
    exact Steps.refl _)
  have c3 : Steps p.tables e below (s₁.setTop (entryFrame m #[.ref d, .int (Int32.ofNat B.slots.size)] 2)) (s₁.setTop (mkF m 8 #[.val (.ref d), .val (.int (Int32.ofNat B.slots.size))] [.int (lo8 (ushr (Int32.ofNat B.slots.size - Int32.ofNat B.slots.size) 31))])) := c2.trans (by
    refine X0.alen hexec hB0 rfl rfl (hb hbytes d2) ?_
    refine XS.isub X0.here hexec rfl (hb hbytes d3) rfl ?_
    refine bipushV X0.here hexec rfl 31 (hb hbytes d4) (by decide) ?_
    refine iushr X0.here hexec rfl (hb hbytes d6) rfl ?_
    refine i2b X0.here hexec rfl (hb hbytes d7) rfl ?_
    exact Steps.refl _)
  have e0 : lo8 (ushr (Int32.ofNat B.slots.size - Int32.ofNat B.slots.size) 31) = 0 := by rw [Int32.sub_self]; decide
  rw [e0] at c3
  exact ⟨s₁, some (.int 0), _, _, _, X0, rfl, rfl, rfl, (fun h => by cases h), ⟨rfl, hh0⟩, fun fs hl => c3.trans (X0.ireturnOut hexec hret rfl (Or.inr (Or.inr (Or.inl rfl))) (hb hbytes d8) hl)⟩
end CodL
/-- the String at a is Latin-1 over a new byte[] (the heap's one new cell): the low bytes of the len chars of A from o on; every cell but a is kept -/
def Got (a : Addr) (D : Cell) (fV fC : Field) (A : Cell) (o len : Nat) (r : Option Value) (s u : State) : Prop := r = none ∧ ∃ D' V : Cell, Blank "java/lang/String" a D' u ∧ Same D D' [fV.slot, fC.slot] ∧ D'.slots[fV.slot]? = some (.ref s.heap.size) ∧ D'.slots[fC.slot]? = some (.int 0) ∧ Arr .byte s.heap.size V u ∧ V.vm = .none ∧ u.vm.findClass "[B" = some V.cls ∧ V.slots.size = len ∧ (∀ j, j < len → V.slots[j]? = some (.int (lo8 (cv A (o + j))))) ∧ (∀ (y : Addr) (c : Cell), y ≠ a → s.heap[y]? = some c → u.heap[y]? = some c) ∧ u.heap.size = s.heap.size + 1
theorem Got.mv {a : Addr} {D A : Cell} {fV fC : Field} {o len : Nat} : ∀ r (U U' V V' : State), U'.heap = U.heap → V.vm.Alike V'.vm → V'.heap = V.heap → Got a D fV fC A o len r U V → Got a D fV fC A o len r U' V' :=
  fun r U U' V V' h1 hal h2 ⟨e0, D', X, a1, a2, a3, a4, a5, a6, a7, a8, a9, a10, a11⟩ => ⟨e0, D', X, a1.mv hal h2, a2, by rw [h1]; exact a3, a4, by rw [h1]; exact a5.mv hal h2, a6, by rw [hal.findClass]; exact a7, a8, a9, by rw [h1, h2]; exact a10, by rw [h1, h2]; exact a11⟩
namespace New4
def yN : MethodName := ⟨"java/lang/String", "<init>", "([CIILjava/lang/Void;)V"⟩
abbrev yB : ByteArray := jdk_42_method_149_code
theorem d0 : decode yB 0 = .ok (.aload_n 0, 1) := by decide +kernel
theorem d1 : decode yB 1 = .ok (.invokespecial 1, 3) := by decide +kernel
theorem d4 : decode yB 4 = .ok (.iload_n 3, 1) := by decide +kernel
theorem d5 : decode yB 5 = .ok (.ifCond (.ne) 22, 3) := by decide +kernel
theorem d27 : decode yB 27 = .ok (.getstatic 38, 3) := by decide +kernel
theorem d30 : decode yB 30 = .ok (.ifCond (.eq) 28, 3) := by decide +kernel
theorem d33 : decode yB 33 = .ok (.aload_n 1, 1) := by decide +kernel
theorem d34 : decode yB 34 = .ok (.iload_n 2, 1) := by decide +kernel
theorem d35 : decode yB 35 = .ok (.iload_n 3, 1) := by decide +kernel
theorem d36 : decode yB 36 = .ok (.invokestatic 177, 3) := by decide +kernel
theorem d39 : decode yB 39 = .ok (.astore 5, 2) := by decide +kernel
theorem d41 : decode yB 41 = .ok (.aload_n 0, 1) := by decide +kernel
theorem d42 : decode yB 42 = .ok (.aload 5, 2) := by decide +kernel
theorem d44 : decode yB 44 = .ok (.iload_n 3, 1) := by decide +kernel
theorem d45 : decode yB 45 = .ok (.invokestatic 47, 3) := by decide +kernel
theorem d48 : decode yB 48 = .ok (.putfield 15, 3) := by decide +kernel
theorem d51 : decode yB 51 = .ok (.aload_n 0, 1) := by decide +kernel
theorem d52 : decode yB 52 = .ok (.aload 5, 2) := by decide +kernel
theorem d54 : decode yB 54 = .ok (.putfield 9, 3) := by decide +kernel
theorem d57 : decode yB 57 = .ok (.return_, 1) := by decide +kernel
def site : List Cond := [.fieldLink "java/lang/String" 38 "java/lang/String" "COMPACT_STRINGS" "Z", Cmp3.tab, CodL.tab, .laysFinal "java/lang/String" "java/lang/String" "value" "[B", .fieldLink "java/lang/String" 9 "java/lang/String" "value" "[B", .laysFinal "java/lang/String" "java/lang/String" "coder" "B", .fieldLink "java/lang/String" 15 "java/lang/String" "coder" "B"] ++ objW "java/lang/String" 1 ++ staticW "java/lang/String" 177 Cmp3.yN ++ staticW "java/lang/String" 47 CodL.yN
def tab : Cond := tabOf yN yB 6 none site
def P (a : Addr) (D : Cell) (fV fC : Field) (b : Addr) (A : Cell) (z : Int32) (o len : Nat) (args : Array Value) (s : State) : Prop := args = #[.ref a, .ref b, .int (Int32.ofNat o), .int (Int32.ofNat len), .null] ∧ Blank "java/lang/String" a D s ∧ Found "java/lang/String" "value" "[B" fV s ∧ Found "java/lang/String" "coder" "B" fC s ∧ Ch b A s ∧ StaticIs s "java/lang/String" "COMPACT_STRINGS" "Z" (.int z) ∧ ¬ z = 0 ∧ 0 < len ∧ o + len ≤ A.slots.size ∧ len ≤ 536870912 ∧ ∀ i, i < len → ¬ 255 < cv A (o + i)
def E (a : Addr) (D : Cell) (fV fC : Field) (A : Cell) (o len : Nat) (r : Option Value) (s u : State) : Prop := Got a D fV fC A o len r s u
/-- len > 0, no char of the range above 255: a Latin-1 String of their low bytes -/
theorem law (l : Launch) (a : Addr) (D : Cell) (fV fC : Field) (b : Addr) (A : Cell) (z : Int32) (o len : Nat) : Law l yN 5 4 2 35 yB 6 none site (P a D fV fC b A z o len) (E a D fV fC A o len) [⟨a, fC.slot⟩, ⟨a, fV.slot⟩] 1 len := by
  refine Law.of_walk (plainFor_of_name (by decide +kernel)) (by decide +kernel) (by decide +kernel) (by decide) (fun _ _ h => by rw [h.1]; rfl) (fun _ U U' hal hh h => ⟨h.1, h.2.1.mv hal hh, h.2.2.1.al hal, h.2.2.2.1.al hal, h.2.2.2.2.1.mv hal hh, h.2.2.2.2.2.1.there hal hh, h.2.2.2.2.2.2⟩) (fun r U U' V V' h1 hal h2 h => Got.mv r U U' V V' h1 hal h2 h) ?_
  intro p e s m args below meth c s₁ X0 hexec hbytes hml hret hlk hnm hown hh0 W hP
  obtain ⟨rfl, hB, f1, f2, hA, s1, hz, l0, l1, l2, hp⟩ := hP
  have a31 := hA.1.2.2.2
  have c1 : Steps p.tables e below (s₁.setTop (entryFrame m #[.ref a, .ref b, .int (Int32.ofNat o), .int (Int32.ofNat len), .null] 6)) (s₁.setTop (mkF m 0 #[.val (.ref a), .val (.ref b), .val (.int (Int32.ofNat o)), .val (.int (Int32.ofNat len)), .val .null, .unset] [])) := entry rfl
  have c2 : Steps p.tables e below (s₁.setTop (entryFrame m #[.ref a, .ref b, .int (Int32.ofNat o), .int (Int32.ofNat len), .null] 6)) (s₁.setTop (mkF m 1 #[.val (.ref a), .val (.ref b), .val (.int (Int32.ofNat o)), .val (.int (Int32.ofNat len)), .val .null, .unset] [.ref a])) := c1.trans (by
    refine XS.aloadN X0.here hexec rfl (hb hbytes d0) rfl rfl ?_
    exact Steps.refl _)
  obtain ⟨T3, X3, q3, st3⟩ := X0.oinit hexec hown (wks W (objW "java/lang/String" 1)) (g := (mkF m 1 #[.val (.ref a), .val (.ref b), .val (.int (Int32.ofNat o)), .val (.int (Int32.ofNat len)), .val .null, .unset] [.ref a])) rfl (by rw [hml]; rfl) (rest := []) rfl (hb hbytes d1) (W := 0) (by show 2 * 0 + 0 ≤ _; decide) (Nat.le_of_ble_eq_true rfl) (Nat.le_of_ble_eq_true rfl)
  have hh3 := q3.trans hh0
  have c4 : Steps p.tables e below (s₁.setTop (entryFrame m #[.ref a, .ref b, .int (Int32.ofNat o), .int (Int32.ofNat len), .null] 6)) (T3.setTop (mkF m 27 #[.val (.ref a), .val (.ref b), .val (.int (Int32.ofNat o)), .val (.int (Int32.ofNat len)), .val .null, .unset] [])) := (c2.trans (st3 _ (Steps.refl _))).trans (by
    refine XS.iloadN X3.here hexec rfl (hb hbytes d4) rfl ?_
    refine XS.ifYes X3.here hexec rfl (pc0 := 5) rfl (hb hbytes d5) rfl (i0_ne_t (nz32 (by omega) l0)) (by decide) rfl ?_
    exact Steps.refl _)
  obtain ⟨T5, X5, q5, st5⟩ := X3.sget hexec hown (wk W (.fieldLink "java/lang/String" 38 "java/lang/String" "COMPACT_STRINGS" "Z")) s1 (fun _ _ h => by rw [hh3]; exact h) (g := (mkF m 27 #[.val (.ref a), .val (.ref b), .val (.int (Int32.ofNat o)), .val (.int (Int32.ofNat len)), .val .null, .unset] [])) rfl (hb hbytes d27)
  have hh5 := q5.trans hh3
  have c6 : Steps p.tables e below (s₁.setTop (entryFrame m #[.ref a, .ref b, .int (Int32.ofNat o), .int (Int32.ofNat len), .null] 6)) (T5.setTop (mkF m 30 #[.val (.ref a), .val (.ref b), .val (.int (Int32.ofNat o)), .val (.int (Int32.ofNat len)), .val .null, .unset] [.int z])) := c4.trans (st5 _ (Steps.refl _))
  have c7 : Steps p.tables e below (s₁.setTop (entryFrame m #[.ref a, .ref b, .int (Int32.ofNat o), .int (Int32.ofNat len), .null] 6)) (T5.setTop (mkF m 36 #[.val (.ref a), .val (.ref b), .val (.int (Int32.ofNat o)), .val (.int (Int32.ofNat len)), .val .null, .unset] [.int (Int32.ofNat len), .int (Int32.ofNat o), .ref b])) := c6.trans (by
    refine XS.ifNo X5.here hexec rfl (hb hbytes d30) rfl (i0_eq_f hz) ?_
    refine XS.aloadN X5.here hexec rfl (hb hbytes d33) rfl rfl ?_
    refine XS.iloadN X5.here hexec rfl (hb hbytes d34) rfl ?_
    refine XS.iloadN X5.here hexec rfl (hb hbytes d35) rfl ?_
    exact Steps.refl _)
  obtain ⟨v8, T8, X8, E8, g8⟩ := X5.callS hexec (Cmp3.law l b A o len) hown (wks W (staticW "java/lang/String" 177 Cmp3.yN)) (wk W Cmp3.tab) (W := 0) (Nat.le_of_ble_eq_true rfl) (Nat.le_of_ble_eq_true rfl) (Nat.le_refl _) (by show 0 + len ≤ len; omega) (g := (mkF m 36 #[.val (.ref a), .val (.ref b), .val (.int (Int32.ofNat o)), .val (.int (Int32.ofNat len)), .val .null, .unset] [.int (Int32.ofNat len), .int (Int32.ofNat o), .ref b])) rfl (by rw [hml]; rfl) c7 (argsL := [.ref b, .int (Int32.ofNat o), .int (Int32.ofNat len)]) (rest := []) rfl rfl (by show 2 * 0 + 0 ≤ _; decide) (hb hbytes d36) (⟨rfl, hA.mv X5.warmed.alike hh5, l1, l2, hp⟩)
  obtain ⟨e8, z8⟩ := E8
  obtain ⟨rfl, N, n1, n2, n3, n4, n5, n6⟩ := NewArr.mv _ T5 s _ _ hh5.symm (Vm.Alike.refl _) rfl e8
  rw [hh5] at z8
  have hB1 := hB.keep X8.warmed.alike (n6 _ _ hB.1)
  have hne : s.heap.size ≠ a := (Nat.ne_of_lt (Array.getElem?_eq_some_iff.mp hB.1).1).symm
  have c9 : Steps p.tables e below (s₁.setTop (entryFrame m #[.ref a, .ref b, .int (Int32.ofNat o), .int (Int32.ofNat len), .null] 6)) (T8.setTop (mkF m 39 #[.val (.ref a), .val (.ref b), .val (.int (Int32.ofNat o)), .val (.int (Int32.ofNat len)), .val .null, .unset] [.ref s.heap.size])) := g8
  have c10 : Steps p.tables e below (s₁.setTop (entryFrame m #[.ref a, .ref b, .int (Int32.ofNat o), .int (Int32.ofNat len), .null] 6)) (T8.setTop (mkF m 45 #[.val (.ref a), .val (.ref b), .val (.int (Int32.ofNat o)), .val (.int (Int32.ofNat len)), .val .null, .val (.ref s.heap.size)] [.int (Int32.ofNat N.slots.size), .ref s.heap.size, .ref a])) := by
    have hc : Steps p.tables e below (s₁.setTop (entryFrame m #[.ref a, .ref b, .int (Int32.ofNat o), .int (Int32.ofNat len), .null] 6)) (T8.setTop (mkF m 45 #[.val (.ref a), .val (.ref b), .val (.int (Int32.ofNat o)), .val (.int (Int32.ofNat len)), .val .null, .val (.ref s.heap.size)] [.int (Int32.ofNat len), .ref s.heap.size, .ref a])) := c9.trans (by
      refine XS.astore X8.here hexec rfl (hb hbytes d39) rfl rfl rfl ?_
      refine XS.aloadN X8.here hexec rfl (hb hbytes d41) rfl rfl ?_
      refine XS.aload X8.here hexec rfl (hb hbytes d42) rfl rfl ?_
      refine XS.iloadN X8.here hexec rfl (hb hbytes d44) rfl ?_
      exact Steps.refl _)
    rw [n4]; exact hc
  obtain ⟨v11, T11, X11, E11, g11⟩ := X8.callS hexec (CodL.law l s.heap.size N) hown (wks W (staticW "java/lang/String" 47 CodL.yN)) (wk W CodL.tab) (W := 1) (Nat.le_of_ble_eq_true rfl) (Nat.le_of_ble_eq_true rfl) (Nat.le_refl _) (by show 0 + len + 0 ≤ len; omega) (g := (mkF m 45 #[.val (.ref a), .val (.ref b), .val (.int (Int32.ofNat o)), .val (.int (Int32.ofNat len)), .val .null, .val (.ref s.heap.size)] [.int (Int32.ofNat N.slots.size), .ref s.heap.size, .ref a])) rfl (by rw [hml]; rfl) c10 (argsL := [.ref s.heap.size, .int (Int32.ofNat N.slots.size)]) (rest := [.ref a]) rfl rfl (by show 2 * 0 + (1 + 0) ≤ _; decide) (hb hbytes d45) (⟨rfl, n1⟩)
  obtain ⟨rfl, q11⟩ := E11
  have hB11 := hB1.mv (X8.warmed.alike.symm.trans X11.warmed.alike) q11
  have c12 : Steps p.tables e below (s₁.setTop (entryFrame m #[.ref a, .ref b, .int (Int32.ofNat o), .int (Int32.ofNat len), .null] 6)) (T11.setTop (mkF m 48 #[.val (.ref a), .val (.ref b), .val (.int (Int32.ofNat o)), .val (.int (Int32.ofNat len)), .val .null, .val (.ref s.heap.size)] [.int 0, .ref a])) := g11
  obtain ⟨T13, X13, p13, bl13, sl13, st13⟩ := X11.finit hexec hown (wk W (.fieldLink "java/lang/String" 15 "java/lang/String" "coder" "B")) (Or.inr ⟨_, (wk W (.laysFinal "java/lang/String" "java/lang/String" "coder" "B"))⟩) (Or.inl ⟨rfl, hnm⟩) f2 (Or.inl rfl) hB11 (t := .byte) (by decide +kernel) rfl (g := (mkF m 48 #[.val (.ref a), .val (.ref b), .val (.int (Int32.ofNat o)), .val (.int (Int32.ofNat len)), .val .null, .val (.ref s.heap.size)] [.int 0, .ref a])) rfl (rest := []) rfl (hb hbytes d48)
  have c14 : Steps p.tables e below (s₁.setTop (entryFrame m #[.ref a, .ref b, .int (Int32.ofNat o), .int (Int32.ofNat len), .null] 6)) (T13.setTop (mkF m 54 #[.val (.ref a), .val (.ref b), .val (.int (Int32.ofNat o)), .val (.int (Int32.ofNat len)), .val .null, .val (.ref s.heap.size)] [.ref s.heap.size, .ref a])) := (c12.trans (st13 _ (Steps.refl _))).trans (by
    refine XS.aloadN X13.here hexec rfl (hb hbytes d51) rfl rfl ?_
    refine XS.aload X13.here hexec rfl (hb hbytes d52) rfl rfl ?_
    exact Steps.refl _)
  obtain ⟨T15, X15, p15, bl15, sl15, st15⟩ := X13.finit hexec hown (wk W (.fieldLink "java/lang/String" 9 "java/lang/String" "value" "[B")) (Or.inr ⟨_, (wk W (.laysFinal "java/lang/String" "java/lang/String" "value" "[B"))⟩) (Or.inl ⟨rfl, hnm⟩) f1 (Or.inl rfl) bl13 (t := (.array .byte)) (by decide +kernel) rfl (g := (mkF m 54 #[.val (.ref a), .val (.ref b), .val (.int (Int32.ofNat o)), .val (.int (Int32.ofNat len)), .val .null, .val (.ref s.heap.size)] [.ref s.heap.size, .ref a])) rfl (rest := []) rfl (hb hbytes d54)
  have c16 : Steps p.tables e below (s₁.setTop (entryFrame m #[.ref a, .ref b, .int (Int32.ofNat o), .int (Int32.ofNat len), .null] 6)) (T15.setTop (mkF m 57 #[.val (.ref a), .val (.ref b), .val (.int (Int32.ofNat o)), .val (.int (Int32.ofNat len)), .val .null, .val (.ref s.heap.size)] [])) := c14.trans (st15 _ (Steps.refl _))
  have ap := apart (Or.inr ⟨_, (wk W (.laysFinal "java/lang/String" "java/lang/String" "value" "[B"))⟩) (Or.inr ⟨_, (wk W (.laysFinal "java/lang/String" "java/lang/String" "coder" "B"))⟩) f1 f2 (t₁ := .array .byte) (t₂ := .byte) (by decide +kernel) (by decide +kernel) (by decide)
  have al := X8.warmed.alike.symm.trans X15.warmed.alike
  have n7 : T11.heap[s.heap.size]? = some N := by rw [q11]; exact n1.1
  exact ⟨T15, none, _, _, _, X15, by simp, rfl, by omega, (fun _ => rfl), ⟨rfl, _, N, bl15, ((Same.refl D _).set _ (by simp)).set _ (by simp), sl15, (Cell.slots_setSlot_ne _ ap).trans sl13, n1.keep al (p15.other hne (p13.other hne n7)), n2, by rw [al.findClass]; exact n3, n4, n5, fun y c h1 h2 => p15.other h1 (p13.other h1 (by rw [q11]; exact n6 y c h2)), by rw [p15.2.2, p13.2.2, q11]; exact z8⟩, fun fs hl => c16.trans (X15.returnOut hexec hret (hb hbytes d57) hl)⟩
end New4
namespace New1
def yN : MethodName := ⟨"java/lang/String", "<init>", "([C)V"⟩
abbrev yB : ByteArray := jdk_42_method_3_code
theorem d0 : decode yB 0 = .ok (.aload_n 0, 1) := by decide +kernel
theorem d1 : decode yB 1 = .ok (.aload_n 1, 1) := by decide +kernel
theorem d2 : decode yB 2 = .ok (.iconst 0, 1) := by decide +kernel
theorem d3 : decode yB 3 = .ok (.aload_n 1, 1) := by decide +kernel
theorem d4 : decode yB 4 = .ok (.arraylength, 1) := by decide +kernel
theorem d5 : decode yB 5 = .ok (.aconst_null, 1) := by decide +kernel
theorem d6 : decode yB 6 = .ok (.invokespecial 27, 3) := by decide +kernel
theorem d9 : decode yB 9 = .ok (.return_, 1) := by decide +kernel
def site : List Cond := [New4.tab] ++ initW "java/lang/String" 27 New4.yN
def tab : Cond := tabOf yN yB 2 none site
def P (a : Addr) (D : Cell) (fV fC : Field) (b : Addr) (A : Cell) (z : Int32) (args : Array Value) (s : State) : Prop := args = #[.ref a, .ref b] ∧ Blank "java/lang/String" a D s ∧ Found "java/lang/String" "value" "[B" fV s ∧ Found "java/lang/String" "coder" "B" fC s ∧ Ch b A s ∧ StaticIs s "java/lang/String" "COMPACT_STRINGS" "Z" (.int z) ∧ ¬ z = 0 ∧ 0 < A.slots.size ∧ A.slots.size ≤ 536870912 ∧ ∀ i, i < A.slots.size → ¬ 255 < cv A i
def E (a : Addr) (D : Cell) (fV fC : Field) (A : Cell) (r : Option Value) (s u : State) : Prop := Got a D fV fC A 0 A.slots.size r s u
/-- new String(chars), not empty, no char above 255: a Latin-1 String of their low bytes -/
theorem law (l : Launch) (a : Addr) (D : Cell) (fV fC : Field) (b : Addr) (A : Cell) (z : Int32) : Law l yN 2 1 3 52 yB 2 none site (P a D fV fC b A z) (E a D fV fC A) [⟨a, fC.slot⟩, ⟨a, fV.slot⟩] 1 A.slots.size := by
  refine Law.of_walk (plainFor_of_name (by decide +kernel)) (by decide +kernel) (by decide +kernel) (by decide) (fun _ _ h => by rw [h.1]; rfl) (fun _ U U' hal hh h => ⟨h.1, h.2.1.mv hal hh, h.2.2.1.al hal, h.2.2.2.1.al hal, h.2.2.2.2.1.mv hal hh, h.2.2.2.2.2.1.there hal hh, h.2.2.2.2.2.2⟩) (fun r U U' V V' h1 hal h2 h => Got.mv r U U' V V' h1 hal h2 h) ?_
  intro p e s m args below meth c s₁ X0 hexec hbytes hml hret hlk hnm hown hh0 W hP
  obtain ⟨rfl, hB, f1, f2, hA, s1, hz, l0, l2, hp⟩ := hP
  have c1 : Steps p.tables e below (s₁.setTop (entryFrame m #[.ref a, .ref b] 2)) (s₁.setTop (mkF m 0 #[.val (.ref a), .val (.ref b)] [])) := entry rfl
  have c2 : Steps p.tables e below (s₁.setTop (entryFrame m #[.ref a, .ref b] 2)) (s₁.setTop (mkF m 6 #[.val (.ref a), .val (.ref b)] [.null, .int (Int32.ofNat A.slots.size), .int 0, .ref b, .ref a])) := c1.trans (by
    refine XS.aloadN X0.here hexec rfl (hb hbytes d0) rfl rfl ?_
    refine XS.aloadN X0.here hexec rfl (hb hbytes d1) rfl rfl ?_
    refine iconstV X0.here hexec rfl 0 (hb hbytes d2) (by decide) ?_
    refine XS.aloadN X0.here hexec rfl (hb hbytes d3) rfl rfl ?_
    refine X0.alen hexec (hA.1.mv X0.warmed.alike hh0) rfl rfl (hb hbytes d4) ?_
    refine XS.aconstNull X0.here hexec rfl (hb hbytes d5) ?_
    exact Steps.refl _)
  obtain ⟨v3, T3, X3, E3, g3⟩ := X0.callN hexec (New4.law l a D fV fC b A z 0 A.slots.size) rfl hown (wks W (initW "java/lang/String" 27 New4.yN)) (W New4.tab (by simp only [site, List.mem_cons, List.mem_append, true_or, or_true])) (W := 0) (Nat.le_of_ble_eq_true rfl) (Nat.le_of_ble_eq_true rfl) (Nat.le_refl _) (by show 0 + A.slots.size ≤ A.slots.size; omega) (g := (mkF m 6 #[.val (.ref a), .val (.ref b)] [.null, .int (Int32.ofNat A.slots.size), .int (Int32.ofNat 0), .ref b, .ref a])) rfl (by rw [hml]; rfl) c2 (argsL := [.ref b, .int (Int32.ofNat 0), .int (Int32.ofNat A.slots.size), .null]) (rest := []) rfl rfl (by show 2 * 0 + 0 ≤ _; decide) (hb hbytes d6) (⟨rfl, hB.mv X0.warmed.alike hh0, f1.al X0.warmed.alike, f2.al X0.warmed.alike, hA.mv X0.warmed.alike hh0, s1.there X0.warmed.alike hh0, hz, l0, by omega, l2, fun i hi => by rw [Nat.zero_add]; exact hp i hi⟩)
  have e0 := Got.mv _ s₁ s _ _ hh0.symm (Vm.Alike.refl _) rfl E3
  obtain rfl := e0.1
  have c4 : Steps p.tables e below (s₁.setTop (entryFrame m #[.ref a, .ref b] 2)) (T3.setTop (mkF m 9 #[.val (.ref a), .val (.ref b)] [])) := g3
  exact ⟨T3, none, _, _, _, X3, by simp, rfl, by omega, (fun _ => rfl), e0, fun fs hl => c4.trans (X3.returnOut hexec hret (hb hbytes d9) hl)⟩
theorem pays {l : Launch} {R : Room} {p : Program} {e : Env} {below : List Frame} {s : State} {sargs : Array Value} {len W : Nat} (a : Addr) (D : Cell) (fV fC : Field) (b : Addr) (A : Cell) (z : Int32) (htab : tab.before sargs s = true) (hfr : 4 ≤ R.frames) (hlo : W + 65 ≤ R.locals) :
    Back l R p e below s sargs yN len W (fun A₁ a₁ => A₁.cells + 1 ≤ R.cells ∧ A₁.slots + A.slots.size ≤ R.slots ∧ P a D fV fC b A z a₁ A₁.U) (fun A₁ _ v₁ B₁ => E a D fV fC A v₁ A₁.U B₁.U ∧ B₁.locs = A₁.locs ++ [⟨a, fC.slot⟩, ⟨a, fV.slot⟩] ∧ B₁.cells = A₁.cells + 1 ∧ B₁.slots = A₁.slots + A.slots.size) :=
  (law l a D fV fC b A z).pays htab hfr (by omega)
end New1
end StrChars
namespace StrChars.Road
open Jvm Sem ClassFile Op Lib Jvm.Stand Jvm.Free Jvm.Free.XT
open Jvm.Lib.Cold (StaticIs)
abbrev ST : String := "java/lang/String"
/-- every table word that New1's law asks, flat -/
abbrev words : List Jvm.Cond := [.code New1.yN New1.yB 2 none, .initialized ST, .methodLink ST 27 New4.yN, .instanceMethod New4.yN,
  .code New4.yN New4.yB 6 none, .fieldLink ST 38 ST "COMPACT_STRINGS" "Z", .laysFinal ST ST "value" "[B", .fieldLink ST 9 ST "value" "[B", .laysFinal ST ST "coder" "B", .fieldLink ST 15 ST "coder" "B",
  .methodLink ST 1 Lib.objectInit, .instanceMethod Lib.objectInit, .code Lib.objectInit ⟨#[0xb1]⟩ 1 none, .methodLink ST 177 Cmp3.yN, .static Cmp3.yN, .methodLink ST 47 CodL.yN, .static CodL.yN,
  .code Cmp3.yN Cmp3.yB 6 (some (.array .byte)), .initialized U16, .arrayClass .byte, .methodLink U16 115 Cmp5.yN, .static Cmp5.yN, .code Cmp5.yN Cmp5.yB 7 (some .int), .code CodL.yN CodL.yB 2 (some .byte)]
theorem tab_of {a : Array Value} {s : State} (h : ∀ w ∈ words, w.before a s = true) : New1.tab.before a s = true := by
  have h5 : Cmp5.tab.before a s = true := unparts (wk h (.code Cmp5.yN Cmp5.yB 7 (some .int))) (wks h (.initialized Cmp5.yN.cls :: Cmp5.site))
  have hc : CodL.tab.before a s = true := unparts (wk h (.code CodL.yN CodL.yB 2 (some .byte))) (wks h (.initialized CodL.yN.cls :: CodL.site))
  have q5 : ∀ w ∈ Cmp5.tab :: words, w.before a s = true := fun w hw => (List.mem_cons.mp hw).elim (fun e => e ▸ h5) (h w)
  have h3 : Cmp3.tab.before a s = true := unparts (wk q5 (.code Cmp3.yN Cmp3.yB 6 (some (.array .byte)))) (wks q5 (.initialized Cmp3.yN.cls :: Cmp3.site))
  have q3 : ∀ w ∈ Cmp3.tab :: CodL.tab :: words, w.before a s = true := fun w hw => (List.mem_cons.mp hw).elim (fun e => e ▸ h3) fun hw => (List.mem_cons.mp hw).elim (fun e => e ▸ hc) (h w)
  have h4 : New4.tab.before a s = true := unparts (wk q3 (.code New4.yN New4.yB 6 none)) (wks q3 (.initialized New4.yN.cls :: New4.site))
  have q4 : ∀ w ∈ New4.tab :: words, w.before a s = true := fun w hw => (List.mem_cons.mp hw).elim (fun e => e ▸ h4) (h w)
  exact unparts (wk q4 (.code New1.yN New1.yB 2 none)) (wks q4 (.initialized New1.yN.cls :: New1.site))
/-- the words ride from the start Z to the walk's own state -/
theorem moved {Z s : State} {a0 args : Array Value} (hZ : Z.Warmed39 s.vm) (hw : ∀ d ∈ words, d.before a0 Z = true) : ∀ d ∈ words, d.before args s = true := fun d hd => by
  have q := hw d hd
  have t : ∀ d ∈ words, d = .arrayClass .byte ∨ (d.onTables && d.keepsFace) = true := by decide +kernel
  rcases t d hd with rfl | t
  · exact RoadKit.mvA hZ q
  · exact RoadKit.mv hZ q t
/-- WHAT COMES BACK, over the tables of the start Z: h the heap at the call, h' behind it -/
def Q (Z : State) (x : Addr) (A : Cell) (h : Heap) (v : Option Value) (h' : Heap) (L : List Loc) : Prop := v = none ∧ (∀ y ∈ L, y.base = x) ∧ RoadKit.Keep h h' [x] ∧ h'.size = h.size + 1 ∧ RoadKit.Exa Z h' x ST ∧ RoadKit.Fld Z h' x ST "value" "[B" (.ref h.size) ∧ RoadKit.Fld Z h' x ST "coder" "B" (.int 0) ∧
  (∃ V : Cell, RoadKit.Arr Z h' h.size V .byte ∧ V.vm = .none ∧ Z.vm.findClass "[B" = some V.cls ∧ V.slots.size = A.slots.size ∧ ∀ j, j < A.slots.size → V.slots[j]? = some (.int (lo8 (cv A j)))) ∧
  ∀ (O n d : String) (w : Value), RoadKit.Fld Z h x O n d w → RoadKit.slotOf Z O n d ≠ RoadKit.slotOf Z ST "value" "[B" → RoadKit.slotOf Z O n d ≠ RoadKit.slotOf Z ST "coder" "B" → RoadKit.Fld Z h' x O n d w
/-- **new String(chars) AT A CALL, IN THE ROAD'S FORM**: for specialBack behind newO: x the fresh String, b the char[] with the cell A -/
theorem back {p : Program} {l : Launch} {e : Env} {R : Room} {s : State} {args : Array Value} {below : List Frame} {len W : Nat} {Z : State} {a0 : Array Value} {h : Heap} (hZ : Z.Warmed39 s.vm) (hw : ∀ d ∈ words, d.before a0 Z = true) {kI : Nat} (wi : (Jvm.Cond.instantiable ST kI).before a0 Z = true)
    {x b : Addr} {A : Cell} {z : Int32} {v0 c0 : Value} (E : RoadKit.Exa Z h x ST) (V : RoadKit.Fld Z h x ST "value" "[B" v0) (C : RoadKit.Fld Z h x ST "coder" "B" c0) (K : RoadKit.Arr Z h b A .char) (hty : Typed .char A) (S : RoadKit.Sta Z h ST "COMPACT_STRINGS" "Z" (.int z)) (hz : ¬ z = 0)
    (l0 : 0 < A.slots.size) (l2 : A.slots.size ≤ 536870912) (hp : ∀ i, i < A.slots.size → ¬ 255 < cv A i) (hfr : 4 ≤ R.frames) (hlo : W + 65 ≤ R.locals) :
    Back l R p e below s args New1.yN len W (fun P a => a = #[.ref x, .ref b] ∧ P.U.heap = h ∧ P.cells + 1 ≤ R.cells ∧ P.slots + A.slots.size ≤ R.slots)
      (fun P _ v B => ∃ L, Q Z x A h v B.U.heap L ∧ B.locs = P.locs ++ L ∧ B.cells = P.cells + 1 ∧ B.slots = P.slots + A.slots.size) := by
  intro m meth c P g ig mk a X hg hsize hdg hW hn hp'
  obtain ⟨rfl, rfl, r1, r2⟩ := hp'
  have al : Z.vm.Alike P.U.vm := hZ.alike.trans X.warmed.alike
  obtain ⟨D, cfV, kV, iV, fV, hD, gV, stV, knV, obV, asV, slV⟩ := id V
  obtain ⟨D', cfC, kC, iC, fC, hD', gC, stC, -, -, asC, slC⟩ := id C
  cases hD.symm.trans hD'
  obtain ⟨D2, kD, e1, e2, e3, e4, e5⟩ := id E
  cases hD.symm.trans e1
  obtain ⟨c2, k2, i1, i2, i3, -⟩ := Cond.instantiable_spec wi
  cases e2.symm.trans i1
  cases e3.symm.trans i2
  obtain ⟨kU, u1, u2⟩ := al.2.2 _ _ e3
  have hB : Blank ST x D P.U := ⟨hD, ⟨knV, fun q hq => by rw [hq] at obV; cases obV⟩, by rw [al.findClass]; exact e2, kU, u1, by rw [u2]; exact i3, by rw [u2]; exact e5 i3⟩
  have F1 : Found ST "value" "[B" fV P.U := ⟨SBG.found_only al ⟨cfV, kV, iV, gV⟩, stV⟩
  have F2 : Found ST "coder" "B" fC P.U := ⟨SBG.found_only al ⟨cfC, kC, iC, gC⟩, stC⟩
  have hA : Ch b A P.U := ⟨⟨K.1, State.isArrayOf_alike al K.2.1, K.2.2, by omega⟩, hty⟩
  have hS : StaticIs P.U ST "COMPACT_STRINGS" "Z" (.int z) := by
    obtain ⟨cfS, iS, kS, fS, st, cS, t1, t2, t3, t4, t5, t6, t7⟩ := S
    exact StaticIs.there (s := { Z with heap := P.U.heap }) ⟨cfS, iS, kS, fS, st, cS, t1, t2, t3, t4, t5, (fun q => by rw [q] at t6; cases t6), t7⟩ al rfl
  obtain ⟨v, B, X', ⟨⟨hv, E', V', q1, q2, q3, q4, q5, q6, q7, q8, q9, q10, q11⟩, hl, hc, hs⟩, st⟩ := New1.pays x D fV fC b A z (tab_of (moved hZ hw)) hfr hlo m meth c P g ig mk _ X hg hsize hdg hW hn ⟨r1, r2, rfl, hB, F1, F2, hA, hS, hz, l0, l2, hp⟩
  have al' : Z.vm.Alike B.U.vm := hZ.alike.trans X'.warmed.alike
  have hsz : E'.slots.size = D.slots.size := by
    obtain ⟨-, -, -, kB, w1, w2, w3⟩ := q1
    obtain ⟨kB', y1, y2⟩ := al'.2.2 _ _ e3
    rw [q2.2.1] at w1
    cases w1.symm.trans y1
    rw [w3, e5 i3, y2]
  refine ⟨v, B, X', ⟨_, ⟨hv, ?_, ⟨by omega, fun y cy hy hn' => q10 y cy (by simpa using hn') hy, fun y cy hy => ?_⟩, q11, ⟨E', _, q1.1, by rw [q2.2.1]; exact e2, by rw [q2.2.1]; exact e3, by rw [q2.1]; exact obV, fun _ => by rw [hsz]; exact e5 i3⟩,
    ⟨E', cfV, kV, iV, fV, q1.1, gV, stV, by rw [q2.1]; exact knV, by rw [q2.1]; exact obV, by rw [q2.2.1]; exact asV, q3⟩, ⟨E', cfC, kC, iC, fC, q1.1, gC, stC, by rw [q2.1]; exact knV, by rw [q2.1]; exact obV, by rw [q2.2.1]; exact asC, q4⟩,
    ⟨V', ⟨q5.1, State.isArrayOf_alike al'.symm q5.2.1, q5.2.2.1⟩, q6, by rw [← al'.findClass]; exact q7, q8, fun j hj => by have := q9 j hj; rwa [Nat.zero_add] at this⟩, fun O n d w F n1 n2 => ?_⟩, hl, hc, hs⟩, st⟩
  · intro y hy
    simp only [List.mem_cons, List.not_mem_nil, or_false] at hy
    rcases hy with rfl | rfl <;> rfl
  · by_cases q : y = x
    · subst q
      cases hD.symm.trans hy
      exact ⟨E', q1.1, q2.2.1, q2.1, hsz⟩
    · exact ⟨cy, q10 y cy q hy, rfl, rfl, rfl⟩
  · obtain ⟨D3, cf, k, i, f, g1, g2, g3, g4, g5, g6, g7⟩ := F
    cases hD.symm.trans g1
    simp only [RoadKit.slotOf, g2, gV, gC, Option.map_some, Option.getD_some] at n1 n2
    exact ⟨E', cf, k, i, f, q1.1, g2, g3, by rw [q2.1]; exact g4, by rw [q2.1]; exact g5, by rw [q2.2.1]; exact g6, by rw [q2.2.2 f.slot (by simp [n1, n2])]; exact g7⟩
end StrChars.Road
namespace StrChars.Road
open Jvm Sem ClassFile Op Lib Jvm.Stand Jvm.Free Jvm.Free.XT
/-- WHAT COMES BACK, the byte[] as a list of values -/
def QA (Z : State) (x : Addr) (zn : Int32) (cs : List Int32) (h : Heap) (v : Option Value) (h' : Heap) (L : List Loc) : Prop := v = none ∧ (∀ y ∈ L, y.base = x) ∧ RoadKit.Keep h h' [x] ∧ h'.size = h.size + 1 ∧ RoadKit.Exa Z h' x ST ∧ RoadKit.Fld Z h' x ST "value" "[B" (.ref h.size) ∧ RoadKit.Fld Z h' x ST "coder" "B" (.int 0) ∧
  (∃ kb, Z.vm.findClass "[B" = some kb ∧ RoadKit.Arv Z h' h.size kb .byte zn (cs.map fun c => .int (lo8 c)) (.int 0)) ∧
  ∀ (O n d : String) (w : Value), RoadKit.Fld Z h x O n d w → RoadKit.slotOf Z O n d ≠ RoadKit.slotOf Z ST "value" "[B" → RoadKit.slotOf Z O n d ≠ RoadKit.slotOf Z ST "coder" "B" → RoadKit.Fld Z h' x O n d w
/-- **new String(chars) AT A CALL, THE ARRAYS AS LISTS**: the char[] at b holds cs, not empty, no char above 255 -/
theorem backArv {p : Program} {l : Launch} {e : Env} {R : Room} {s : State} {args : Array Value} {below : List Frame} {len W : Nat} {Z : State} {a0 : Array Value} {h : Heap} (hZ : Z.Warmed39 s.vm) (hw : ∀ d ∈ words, d.before a0 Z = true) {kI : Nat} (wi : (Jvm.Cond.instantiable ST kI).before a0 Z = true)
    {x b : Addr} {k : ClassId} {zn z : Int32} {cs : List Int32} {dv v0 c0 : Value} (E : RoadKit.Exa Z h x ST) (V : RoadKit.Fld Z h x ST "value" "[B" v0) (C : RoadKit.Fld Z h x ST "coder" "B" c0) (K : RoadKit.Arv Z h b k .char zn (cs.map Value.int) dv) (S : RoadKit.Sta Z h ST "COMPACT_STRINGS" "Z" (.int z)) (hz : ¬ z = 0)
    (hlen : zn.toNatClampNeg = cs.length) (h0 : 0 < cs.length) (hbig : cs.length ≤ 536870912) (hall : ∀ c ∈ cs, ¬ 255 < c) (hfr : 4 ≤ R.frames) (hlo : W + 65 ≤ R.locals) :
    Back l R p e below s args New1.yN len W (fun P a => a = #[.ref x, .ref b] ∧ P.U.heap = h ∧ P.cells + 1 ≤ R.cells ∧ P.slots + cs.length ≤ R.slots)
      (fun P _ v B => ∃ L, QA Z x zn cs h v B.U.heap L ∧ B.locs = P.locs ++ L ∧ B.cells = P.cells + 1 ∧ B.slots = P.slots + cs.length) := by
  obtain ⟨A, K1, K2, K3, K4, K5, K6⟩ := K
  have e : A.slots.size = cs.length := K3.trans hlen
  have hat : ∀ (i : Nat) (hi : i < cs.length), A.slots[i]? = some (.int cs[i]) := fun i hi => by rw [K5 i (by omega)]; simp [List.getD_eq_getElem?_getD, hi]
  have hcv : ∀ (i : Nat) (hi : i < cs.length), cv A i = cs[i] := fun i hi => by unfold cv; rw [hat i hi]
  have hty : Typed .char A := fun i v hv => by
    have hi : i < A.slots.size := (Array.getElem?_eq_some_iff.mp hv).1
    have q := K5 i hi
    rw [hv] at q
    rw [Option.some.inj q]
    exact K6 i hi
  refine Back.mono (back hZ hw wi E V C K1 hty S hz (by omega) (by omega) (fun i hi => by rw [hcv i (by omega)]; exact hall _ (List.getElem_mem _)) hfr hlo) (fun P a hp => ⟨hp.1, hp.2.1, hp.2.2.1, by rw [e]; exact hp.2.2.2⟩) (fun P a v B hp hq => ?_)
  obtain ⟨L, ⟨q1, q2, q3, q4, q5, q6, q7, ⟨V', v1, v2, v3, v4, v5⟩, q9⟩, hl, hc, hs⟩ := hq
  refine ⟨L, ⟨q1, q2, q3, q4, q5, q6, q7, ⟨V'.cls, v3, V', v1, rfl, by rw [v4, e, hlen], K4, fun i hi => ?_, fun i hi => ?_⟩, q9⟩, hl, hc, by rw [hs, e]⟩
  · have hi' : i < cs.length := by omega
    rw [v5 i (by omega), hcv i hi']; simp [List.getD_eq_getElem?_getD, hi']
  · have hi' : i < cs.length := by omega
    simp only [List.getD_eq_getElem?_getD, List.getElem?_map, List.getElem?_eq_getElem hi', Option.map_some, Option.getD_some]
    exact fits_lo8 _
end StrChars.Road
namespace StrChars.Road
open Jvm Sem ClassFile Op Lib Jvm.Stand Jvm.Free Jvm.Free.XT
/-- WHAT COMES BACK, in the writer's own shape -/
def QV (Z : State) (x : Addr) (N : Int32) (bs : List Int32) (h : Heap) (n0 : Nat) (v : Option Value) (h' : Heap) (L : List Loc) : Prop := v = none ∧ RoadKit.Fr n0 L ∧ RoadKit.Keep h h' [x] ∧ RoadKit.Exa Z h' x ST ∧ RoadKit.Fld Z h' x ST "coder" "B" (.int 0) ∧
  ∃ (t : Addr) (kb : ClassId), n0 ≤ t ∧ h.size ≤ t ∧ ¬ t = x ∧ RoadKit.Fld Z h' x ST "value" "[B" (.ref t) ∧ RoadKit.Arv Z h' t kb .byte N (bs.map Value.int) (.int 0)
/-- **new String(chars) AT A CALL, FOR THE WRITER**: a char[] of n known ints, each 0 to 255 -/
theorem backV {p : Program} {l : Launch} {e : Env} {R : Room} {s : State} {args : Array Value} {below : List Frame} {len W : Nat} {Z : State} {a0 : Array Value} {h : Heap} (hZ : Z.Warmed39 s.vm) (hw : ∀ d ∈ words, d.before a0 Z = true) {kI : Nat} (wi : (Jvm.Cond.instantiable ST kI).before a0 Z = true)
    {x b : Addr} {kC : ClassId} {cs bs : List Int32} {d v0 c0 : Value} {z N : Int32} {n n0 : Nat} (hx0 : n0 ≤ x) (hh0 : n0 ≤ h.size) (E : RoadKit.Exa Z h x ST) (V : RoadKit.Fld Z h x ST "value" "[B" v0) (C : RoadKit.Fld Z h x ST "coder" "B" c0) (K : RoadKit.Arv Z h b kC .char N (cs.map Value.int) d) (S : RoadKit.Sta Z h ST "COMPACT_STRINGS" "Z" (.int z)) (hz : ¬ z = 0)
    (hn : cs.length = n) (hN : N = Int32.ofNat n) (l0 : 0 < n) (l2 : n ≤ 4000) (hp : ∀ c ∈ cs, ¬ c < 0 ∧ ¬ (255 : Int32) < c) (hb : bs = cs.map (fun c => c.toInt8.toInt32)) (hfr : 4 ≤ R.frames) (hlo : W + 65 ≤ R.locals) :
    Back l R p e below s args (⟨"java/lang/String", "<init>", "([C)V"⟩ : MethodName) len W (fun P a => a = #[.ref x, .ref b] ∧ P.U.heap = h ∧ P.cells + 1 ≤ R.cells ∧ P.slots + n ≤ R.slots)
      (fun P _ v B => ∃ L, QV Z x N bs h n0 v B.U.heap L ∧ B.locs = P.locs ++ L ∧ B.cells = P.cells + 1 ∧ B.slots = P.slots + n) := by
  subst hn hN hb
  refine Back.mono (backArv hZ hw wi E V C K S hz (n32 (by omega)) l0 (by omega) (fun c hc => (hp c hc).2) hfr hlo) (fun P a hp => hp) (fun P a v B hp hq => ?_)
  obtain ⟨L, ⟨q1, q2, q3, q4, q5, q6, q7, ⟨kb, v1, v2⟩, q9⟩, hl, hc, hs⟩ := hq
  exact ⟨L, ⟨q1, fun y hy => by rw [q2 y hy]; exact hx0, q3, q5, q7, h.size, kb, hh0, Nat.le_refl _, Nat.ne_of_gt E.lt, q6, by rw [List.map_map]; exact v2⟩, hl, hc, hs⟩
end StrChars.Road
namespace StrChars
open Jvm Sem ClassFile Op Lib Jvm.Stand Jvm.Free.XT Jvm.Free.ALB Jvm.Free.JM Jvm.Free
open Jvm.Lib.Cold (StaticIs)
def hi8 (x : Int32) : Int32 := lo8 (x >>> ((8 : Int32) &&& 31))
end StrChars
namespace StrChars.Road
open Jvm Sem ClassFile Op Lib Jvm.Stand Jvm.Free Jvm.Free.XT
open Jvm.Lib.Cold (StaticIs)
/-- the bytes of the chars cs, low before high -/
def wideBytes : List Int32 → List Value
  | [] => []
  | c :: cs => .int (lo8 c) :: .int (hi8 c) :: wideBytes cs
/-- an array of N2 bytes vs codes the chars cs by the coder cd -/
def CodA (cs : List Int32) (cd N2 : Int32) (vs : List Value) : Prop := (cd = 0 ∧ N2 = Int32.ofNat cs.length ∧ vs = (cs.map fun c => Value.int (lo8 c)) ∧ ∀ c ∈ cs, ¬ 255 < c) ∨ (cd = 1 ∧ N2 = Int32.ofNat (2 * cs.length) ∧ vs = wideBytes cs ∧ ∃ c ∈ cs, 255 < c)
end StrChars.Road
namespace StrChars.Road
open Jvm Sem ClassFile Op Lib Jvm.Stand Jvm.Free Jvm.Free.XT
open Jvm.Lib.Cold (StaticIs)
/-- what backV says of its String, as the contracts of this text ask it: cs's low bytes, coder 0 -/
theorem codOf {cs : List Int32} {n : Nat} (hn : cs.length = n) (hb : ∀ c ∈ cs, ¬ 255 < c) : CodA cs 0 (Int32.ofNat n) ((cs.map lo8).map Value.int) := Or.inl ⟨rfl, by rw [hn], by simp [List.map_map, Function.comp_def], hb⟩
end StrChars.Road
end Jvm.Pilot.@@N@@
namespace Jvm.Pilot.@@N@@
open Jvm Jvm.ClassFile Sem Op Lib Jvm.Free Jvm.Stand Jvm.LawKit Jvm.RoadKit Bundle Jvm.OwnK
/-! Strings whose chars are below 256, own text over the pasted laws -/
def Str (Z : State) (h : Heap) (x : Addr) (cs : List Int32) : Prop :=
  Exa Z h x "java/lang/String" ∧ Fld Z h x "java/lang/String" "coder" "B" (.int 0) ∧ (∃ (b : Addr) (k : ClassId), Fld Z h x "java/lang/String" "value" "[B" (.ref b) ∧ Arv Z h b k .byte (Int32.ofNat cs.length) ((cs.map StrChars.lo8).map Value.int) (.int 0)) ∧ (∀ c ∈ cs, ¬ c < 0 ∧ ¬ (255 : Int32) < c) ∧ cs.length ≤ 4000
section Strs
variable {Z : State} {EL : List (String × Nat)} {nI : Bool} {a0 : Array Value} {l : Launch} {R : Room} {W : List Addr} {h h' : Heap} {Wt : Nat} {x b : Addr} {cs ds : List Int32} {z : Int32}
theorem Str.ext (F : Str Z h x cs) (E : Ext h h') : Str Z h' x cs := by
  obtain ⟨f1, f2, ⟨b, k, f3, f4⟩, f5⟩ := F
  exact ⟨f1.ext E, f2.ext E, ⟨b, k, f3.ext E, f4.ext E⟩, f5⟩
theorem Str.keep1 {a : Addr} {C : String} {n : Nat} (F : Str Z h x cs) (K : Keep h h' [a]) (E : Exa Z h a C) (wi : (Jvm.Cond.instantiable C n).before a0 Z = true) (hC : C ≠ "java/lang/String") : Str Z h' x cs := by
  obtain ⟨f1, f2, ⟨b, k, f3, f4⟩, f5⟩ := F
  have n1 : x ∉ [a] := ninS (f1.ne E (Ne.symm hC)) nin0
  have n2 : b ∉ [a] := ninS (E.neArv f4 wi).symm nin0
  exact ⟨f1.keep K, f2.keep K n1, ⟨b, k, f3.keep K n1, f4.keep K n2⟩, f5⟩
theorem Str.lt (F : Str Z h x cs) : x < h.size := F.1.lt
theorem up255 (hp : ∀ c ∈ cs, ¬ c < 0 ∧ ¬ (255 : Int32) < c) : ∀ c ∈ cs, ¬ c < 0 ∧ ¬ (65535 : Int32) < c := fun c hc => ⟨(hp c hc).1, fun q => (hp c hc).2 (Int32.lt_trans (by decide) q)⟩
/-- new String(char[]), at least one char -/
theorem cal_new1 (hws : ∀ d ∈ StrChars.Road.words, d.before a0 Z = true) (wi : (Jvm.Cond.instantiable "java/lang/String" 4).before a0 Z = true) {v0 c0 d : Value} {kC : ClassId} {N : Int32} (hx0 : Z.heap.size ≤ x) (hm : x ∈ W) (E : Exa Z h x "java/lang/String") (V : Fld Z h x "java/lang/String" "value" "[B" v0) (C : Fld Z h x "java/lang/String" "coder" "B" c0)
    (A : Arv Z h b kC .char N (cs.map Value.int) d) (O2 : Sta Z Z.heap "java/lang/String" "COMPACT_STRINGS" "Z" (.int z)) (P5 : ¬ z = 0) (hN : N = Int32.ofNat cs.length) (l0 : 0 < cs.length) (l2 : cs.length ≤ 4000) (hp : ∀ c ∈ cs, ¬ c < 0 ∧ ¬ (255 : Int32) < c) (hfr : 4 ≤ R.frames) (hlo : Wt + 65 ≤ R.locals) :
    Cal Z EL nI a0 l R ⟨"java/lang/String", "<init>", "([C)V"⟩ 3 Wt #[.ref x, .ref b] h W 1 cs.length (fun v h' => v = none ∧ Str Z h' x cs ∧ Keep h h' [x]) := by
  refine Cal.of_back (Qz := StrChars.Road.QV Z x N (cs.map fun c => c.toInt8.toInt32) h Z.heap.size) (fun p e bl s as hZ hO => StrChars.Road.backV (W := Wt) (n0 := Z.heap.size) hZ hws wi hx0 hO.1 E V C A (O2.ext hO) P5 rfl hN l0 l2 hp rfl hfr hlo) (fun v h' Lo q => ?_)
  obtain ⟨q1, q2, q3, q4, q5, t, kb, -, -, -, q6, q7⟩ := q
  refine ⟨⟨q1, ⟨q4, q5, ⟨t, kb, q6, ?_⟩, hp, l2⟩, q3⟩, q2, [x], q3, fun y hy => ?_⟩
  · rw [hN] at q7; exact q7
  · cases List.mem_singleton.mp hy; exact ⟨hx0, sfW hm⟩
end Strs
end Jvm.Pilot.@@N@@
namespace Jvm.Pilot.@@N@@
open Jvm Jvm.ClassFile Sem Op Lib Jvm.Free Jvm.Stand Jvm.LawKit Jvm.RoadKit Bundle Jvm.OwnK Jvm.Pilot.@@N@@.Jvm.D
def Env1 (Z : State) (a0 : Array Value) (z0 : Int32) (fm : Value) : Prop := (∀ d ∈ tables_1, d.before a0 Z = true) ∧ EW Z a0 consts_1 ∧ Sta Z Z.heap "java/lang/String" "COMPACT_STRINGS" "Z" (.int z0) ∧ ¬ z0 = 0 ∧ fm = fm
theorem g_backV {Z : State} {a0 : Array Value} (hw : ∀ d ∈ tables_1, d.before a0 Z = true) : ∀ d ∈ StrChars.Road.words, d.before a0 Z = true := fun d hd => hw d ((by decide +kernel : ∀ d ∈ StrChars.Road.words, d ∈ tables_1) d hd)
theorem g_wS {Z : State} {a0 : Array Value} (hw : ∀ d ∈ tables_1, d.before a0 Z = true) : ∀ d ∈ Bundle.stringAtoms, d.before a0 Z = true := fun d hd => hw d ((by decide +kernel : ∀ d ∈ Bundle.stringAtoms, d ∈ tables_1) d hd)
theorem pn_str : plainName "java/lang/String" = true := by first | (simp [plainName, overriddenIn]; done) | decide +kernel
theorem pd_s4 : parseMethodDescriptor "([CIILjava/lang/Void;)V" = some ⟨[(.array .char), .int, .int, (.object "java/lang/Void")], none⟩ := by decide +kernel
theorem pd_s1 : parseMethodDescriptor "([C)V" = some ⟨[(.array .char)], none⟩ := by decide +kernel
set_option maxRecDepth 65536 in
set_option maxHeartbeats 40000000 in
theorem c_s4 {l : Launch} {Z : State} {a0 : Array Value} {z0 : Int32} {fm : Value} (G : Env1 Z a0 z0 fm) (x0 b0 : Addr) {kb0 : ClassId} {vs0 : List Value} {d0 : Value} (h : Heap) (hx0 : Z.heap.size ≤ x0) (E : Exa Z h x0 "java/lang/String") {v0 c0 : Value} (V : Fld Z h x0 "java/lang/String" "value" "[B" v0) (C : Fld Z h x0 "java/lang/String" "coder" "B" c0) (A0 : Arv Z h b0 kb0 .char 0 vs0 d0) : Ctr Z consts_1 false l [] (⟨"java/lang/String", "<init>", "([CIILjava/lang/Void;)V"⟩ : MethodName) jdk_42_method_149_code 6 none ({ frames := 1, cells := 4, slots := 8, locals := 12 } : Room) #[(.ref x0), (.ref b0), (.int (0 : Int32)), (.int (0 : Int32)), .null] h [x0] (fun v h' => v = none ∧ Str Z h' x0 [] ∧ Keep h h' [x0]) := by
  obtain ⟨hw, hEL, O2, P5, O4⟩ := id G
  refine Ctr.of_run (a0 := a0) (L0 := #[.val (.ref x0), .val (.ref b0), .val (.int (0 : Int32)), .val (.int (0 : Int32)), .val .null, .unset]) (plainFor_of_name pn_str) hEL (by first | (simp [argsToLocals, Value.category, maxLocals]; done) | rfl) (fun K hK => ?_)
  have wS := g_wS hw
  refine Run.pure hK (seg := [(0, .aload_n 0, 1)]) (by decide +kernel) (pc' := 1) (L' := #[.val (.ref x0), .val (.ref b0), .val (.int (0 : Int32)), .val (.int (0 : Int32)), .val .null, .unset]) (S' := [(.ref x0)]) rfl ?_
  refine Run.initobj hK (index := 1) (hw _ (List.mem_of_getElem? (i := 15) rfl)) (hw _ (List.mem_of_getElem? (i := 16) rfl)) (hw _ (List.mem_of_getElem? (i := 17) rfl)) rfl (by decide +kernel) (by decide) (Wt := 0) (Nat.le_of_ble_eq_true rfl) (by decide) ?_
  refine Run.pure hK (seg := [(4, .iload_n 3, 1)]) (by decide +kernel) (pc' := 5) (L' := #[.val (.ref x0), .val (.ref b0), .val (.int (0 : Int32)), .val (.int (0 : Int32)), .val .null, .unset]) (S' := [(.int (0 : Int32))]) rfl ?_
  refine Run.ifz hK (cd := .ne) (o := 22) (by decide +kernel) (by decide) (pc' := 27) rfl (fun q => by replace q := (h_ne _ _).1 q; exact absurd rfl q) (fun _ => ?_)
  refine Run.pure hK (seg := [(8, .aload_n 0, 1)]) (by decide +kernel) (pc' := 9) (L' := #[.val (.ref x0), .val (.ref b0), .val (.int (0 : Int32)), .val (.int (0 : Int32)), .val .null, .unset]) (S' := [(.ref x0)]) rfl ?_
  refine Run.ldcs hK (index := 7) rfl (text := "") (hw _ (List.mem_of_getElem? (i := 18) rfl)) wS (by decide) (vs := []) (z := (0 : Int32)) (by decide +kernel) (by decide) (by decide +kernel) (by decide +kernel) (n := 0) (by decide) (by decide) (by decide) (by decide) (fun h1 x1 b1 k1 E1 X1 C1 V1 A1 => ?_)
  refine Run.getf hK (index := 9) (host := "") (Or.inl (hw _ (List.mem_of_getElem? (i := 24) rfl))) Via.refl V1 (by decide +kernel) ?_
  refine Run.putf hK (index := 9) (host := "") (Or.inl (hw _ (List.mem_of_getElem? (i := 24) rfl))) Via.refl (V.ext E1) (E.ext E1) (Or.inr ⟨(hw _ (List.mem_of_getElem? (i := 20) rfl)), rfl, rfl⟩) (hw _ (List.mem_of_getElem? (i := 5) rfl)) (ty := (.array .byte)) (by decide) rfl rfl hx0 (sfW (List.mem_singleton.mpr rfl)) (by decide +kernel) (fun h2 W2 => ?_)
  have hsl : Jvm.RoadKit.slotOf Z "java/lang/String" "coder" "B" ≠ Jvm.RoadKit.slotOf Z "java/lang/String" "value" "[B" := slot_ne (Or.inr (hw _ (List.mem_of_getElem? (i := 21) rfl))) (Or.inr (hw _ (List.mem_of_getElem? (i := 20) rfl))) (by decide) (by decide : parseFieldDescriptor "B" = some .byte) (by decide : parseFieldDescriptor "[B" = some (.array .byte))
  have nb1 : x0 ≠ b1 := (E.ext E1).neArv A1 (hw _ (List.mem_of_getElem? (i := 5) rfl))
  have V2 := (V.ext E1).same W2
  have C2 := (C.ext E1).other W2 (Or.inr hsl)
  have X2 := (E.ext E1).wr W2
  have A2 := A1.other W2 nb1.symm
  refine Run.pure hK (seg := [(17, .aload_n 0, 1)]) (by decide +kernel) (pc' := 18) (L' := #[.val (.ref x0), .val (.ref b0), .val (.int (0 : Int32)), .val (.int (0 : Int32)), .val .null, .unset]) (S' := [(.ref x0)]) rfl ?_
  refine Run.ldcs hK (index := 7) rfl (text := "") (hw _ (List.mem_of_getElem? (i := 18) rfl)) wS (by decide) (vs := []) (z := (0 : Int32)) (by decide +kernel) (by decide) (by decide +kernel) (by decide +kernel) (n := 0) (by decide) (by decide) (by decide) (by decide) (fun h3 x3 b3 k3 E3 X3 C3 V3 A3 => ?_)
  refine Run.getf hK (index := 15) (host := "") (Or.inl (hw _ (List.mem_of_getElem? (i := 25) rfl))) Via.refl C3 (by decide +kernel) ?_
  refine Run.putf hK (index := 15) (host := "") (Or.inl (hw _ (List.mem_of_getElem? (i := 25) rfl))) Via.refl (C2.ext E3) (X2.ext E3) (Or.inr ⟨(hw _ (List.mem_of_getElem? (i := 21) rfl)), rfl, rfl⟩) (hw _ (List.mem_of_getElem? (i := 5) rfl)) (ty := .byte) (by decide) rfl rfl hx0 (sfW (List.mem_singleton.mpr rfl)) (by decide +kernel) (fun h4 W4 => ?_)
  have V4 := (V2.ext E3).other W4 (Or.inr hsl.symm)
  have C4 := (C2.ext E3).same W4
  have X4 := (X2.ext E3).wr W4
  have A4 := (A2.ext E3).other W4 nb1.symm
  have K4 : Keep h h4 [x0] := ((((Keep.refl h [x0]).ext E1).wr W2 (Or.inl (List.mem_singleton.mpr rfl))).ext E3).wr W4 (Or.inl (List.mem_singleton.mpr rfl))
  exact Run.retv hK (by decide +kernel) (by decide) (by decide) ⟨rfl, ⟨X4, C4, ⟨b1, k1, V4, A4⟩, (fun _ q => nomatch q), Nat.zero_le _⟩, K4⟩
set_option maxRecDepth 65536 in
set_option maxHeartbeats 40000000 in
theorem c_s1 {l : Launch} {Z : State} {a0 : Array Value} {z0 : Int32} {fm : Value} (G : Env1 Z a0 z0 fm) (x0 b0 : Addr) {kb0 : ClassId} {vs0 : List Value} {d0 : Value} (h : Heap) (hx0 : Z.heap.size ≤ x0) (E : Exa Z h x0 "java/lang/String") {v0 c0 : Value} (V : Fld Z h x0 "java/lang/String" "value" "[B" v0) (C : Fld Z h x0 "java/lang/String" "coder" "B" c0) (A0 : Arv Z h b0 kb0 .char 0 vs0 d0) : Ctr Z consts_1 false l [] (⟨"java/lang/String", "<init>", "([C)V"⟩ : MethodName) jdk_42_method_3_code 2 none ({ frames := 2, cells := 4, slots := 8, locals := 40 } : Room) #[(.ref x0), (.ref b0)] h [x0] (fun v h' => v = none ∧ Str Z h' x0 [] ∧ Keep h h' [x0]) := by
  obtain ⟨hw, hEL, O2, P5, O4⟩ := id G
  refine Ctr.of_run (a0 := a0) (L0 := #[.val (.ref x0), .val (.ref b0)]) (plainFor_of_name pn_str) hEL (by first | (simp [argsToLocals, Value.category, maxLocals]; done) | rfl) (fun K hK => ?_)
  have wS := g_wS hw
  refine Run.pure hK (seg := [(0, .aload_n 0, 1), (1, .aload_n 1, 1), (2, .iconst 0, 1), (3, .aload_n 1, 1)]) (by decide +kernel) (pc' := 4) (L' := #[.val (.ref x0), .val (.ref b0)]) (S' := [(.ref b0), (.int (0 : Int32)), (.ref b0), (.ref x0)]) rfl ?_
  refine Run.alen hK A0 (by decide +kernel) ?_
  refine Run.pure hK (seg := [(5, .aconst_null, 1)]) (by decide +kernel) (pc' := 6) (L' := #[.val (.ref x0), .val (.ref b0)]) (S' := [.null, (.int (0 : Int32)), (.int (0 : Int32)), (.ref b0), (.ref x0)]) rfl ?_
  refine Run.special hK (index := 27) (y := (⟨"java/lang/String", "<init>", "([CIILjava/lang/Void;)V"⟩ : MethodName)) (Wt := 0) (kc := 4) (ks := 8) rfl (hw _ (List.mem_of_getElem? (i := 11) rfl)) (hw _ (List.mem_of_getElem? (i := 12) rfl)) (hw _ (List.mem_of_getElem? (i := 14) rfl)) (by decide) (a := x0) (fun _ q => q) (Ctr.cal (c_s4 G x0 b0 h hx0 E V C A0) (hw _ (List.mem_of_getElem? (i := 14) rfl)) (hw _ (List.mem_of_getElem? (i := 6) rfl)) (by decide) (by decide)) rfl (argsL := [(.ref b0), (.int (0 : Int32)), (.int (0 : Int32)), .null]) (rest := []) (lenOf pd_s4 rfl) rfl (Nat.le_of_ble_eq_true rfl) (by decide +kernel) (by decide) (by decide) (fun v1 h1 q1 n1 => ?_)
  obtain ⟨rfl, q1a, q1b⟩ := q1
  exact Run.retv hK (by decide +kernel) (by decide) (by decide) ⟨rfl, q1a, q1b⟩
theorem cal_newS {l : Launch} {Z : State} {a0 : Array Value} {z0 : Int32} {fm : Value} (G : Env1 Z a0 z0 fm) {R : Room} {W : List Addr} {h : Heap} {Wt : Nat} {x0 b0 : Addr} {cs : List Int32} {v0 c0 d0 : Value} {kC : ClassId} {N : Int32} (hx0 : Z.heap.size ≤ x0) (hm : x0 ∈ W) (E : Exa Z h x0 "java/lang/String") (V : Fld Z h x0 "java/lang/String" "value" "[B" v0) (C : Fld Z h x0 "java/lang/String" "coder" "B" c0)
    (A : Arv Z h b0 kC .char N (cs.map Value.int) d0) (hN : N = Int32.ofNat cs.length) (l2 : cs.length ≤ 4000) (hp : ∀ c ∈ cs, ¬ c < 0 ∧ ¬ (255 : Int32) < c) (hfr : 4 ≤ R.frames) (hlo : Wt + 65 ≤ R.locals) {kc ks : Nat} (h1 : 4 ≤ kc) (h2 : 8 ≤ ks) (h3 : cs.length ≤ ks) :
    Cal Z consts_1 false a0 l R ⟨"java/lang/String", "<init>", "([C)V"⟩ 3 Wt #[.ref x0, .ref b0] h W kc ks (fun v h' => v = none ∧ Str Z h' x0 cs ∧ Keep h h' [x0]) := by
  obtain ⟨hw, hEL, O2, P5, O4⟩ := id G
  cases cs with
  | nil =>
    subst hN
    exact Cal.conseq (Cal.more (Ctr.cal (c_s1 G x0 b0 h hx0 E V C A) (hw _ (List.mem_of_getElem? (i := 10) rfl)) (hw _ (List.mem_of_getElem? (i := 6) rfl)) (by show 3 ≤ _; omega) (by show Wt + (2 + 11) + 40 ≤ _; omega)) h1 h2) (fun x hx => by cases List.mem_singleton.mp hx; exact hm) (fun _ _ q => q)
  | cons c1 cs =>
    exact Cal.more (cal_new1 (g_backV hw) (hw _ (List.mem_of_getElem? (i := 5) rfl)) hx0 hm E V C A O2 P5 hN (Nat.succ_pos _) l2 hp hfr hlo) (by omega) h3
theorem pn_law : plainName "com/example/resolve_place/resolveplace/parser/ParsedQueryIsLocalPinLaw" = true := by first | (simp [plainName, overriddenIn]; done) | decide +kernel
theorem pn_pq : plainName "com/example/resolve_place/resolveplace/parser/ParsedQuery" = true := by first | (simp [plainName, overriddenIn]; done) | decide +kernel
theorem pn_l1 : plainName "java/lang/StringLatin1" = true := by first | (simp [plainName, overriddenIn]; done) | decide +kernel
theorem pd_v : parseMethodDescriptor "()V" = some ⟨[], none⟩ := by decide +kernel
theorem pd_rn2 : parseMethodDescriptor "(Ljava/lang/Object;Ljava/lang/String;)Ljava/lang/Object;" = some ⟨[(.object "java/lang/Object"), (.object "java/lang/String")], some (.object "java/lang/Object")⟩ := by decide +kernel
theorem pd_rn1 : parseMethodDescriptor "(Ljava/lang/Object;)Ljava/lang/Object;" = some ⟨[(.object "java/lang/Object")], some (.object "java/lang/Object")⟩ := by decide +kernel
theorem pd_g1 : parseMethodDescriptor "(I)[Ljava/lang/Object;" = some ⟨[.int], some (.array (.object "java/lang/Object"))⟩ := by decide +kernel
theorem pd_g0 : parseMethodDescriptor "()[Ljava/lang/Object;" = some ⟨[], some (.array (.object "java/lang/Object"))⟩ := by decide +kernel
theorem pd_ii : parseMethodDescriptor "(II)I" = some ⟨[.int, .int], some .int⟩ := by decide +kernel
theorem pd_ad3 : parseMethodDescriptor "(Ljava/lang/Object;[Ljava/lang/Object;I)V" = some ⟨[(.object "java/lang/Object"), (.array (.object "java/lang/Object")), .int], none⟩ := by decide +kernel
theorem pd_add : parseMethodDescriptor "(Ljava/lang/Object;)Z" = some ⟨[(.object "java/lang/Object")], some .boolean⟩ := by decide +kernel
theorem pd_z : parseMethodDescriptor "()Z" = some ⟨[], some .boolean⟩ := by decide +kernel
theorem pd_i : parseMethodDescriptor "()I" = some ⟨[], some .int⟩ := by decide +kernel
theorem pd_lo : parseMethodDescriptor "()Ljava/util/List;" = some ⟨[], some (.object "java/util/List")⟩ := by decide +kernel
theorem pd_lc : parseMethodDescriptor "(Ljava/util/Collection;)Ljava/util/List;" = some ⟨[(.object "java/util/Collection")], some (.object "java/util/List")⟩ := by decide +kernel
theorem pd_ta : parseMethodDescriptor "()[Ljava/lang/Object;" = some ⟨[], some (.array (.object "java/lang/Object"))⟩ := by decide +kernel
theorem pd_co2 : parseMethodDescriptor "([Ljava/lang/Object;I)[Ljava/lang/Object;" = some ⟨[(.array (.object "java/lang/Object")), .int], some (.array (.object "java/lang/Object"))⟩ := by decide +kernel
theorem pd_co3 : parseMethodDescriptor "([Ljava/lang/Object;ILjava/lang/Class;)[Ljava/lang/Object;" = some ⟨[(.array (.object "java/lang/Object")), .int, (.object "java/lang/Class")], some (.array (.object "java/lang/Object"))⟩ := by decide +kernel
theorem pd_ov : parseMethodDescriptor "([Ljava/lang/Object;)Ljava/util/List;" = some ⟨[(.array (.object "java/lang/Object"))], some (.object "java/util/List")⟩ := by decide +kernel
theorem pd_l1 : parseMethodDescriptor "(Ljava/lang/Object;)V" = some ⟨[(.object "java/lang/Object")], none⟩ := by decide +kernel
theorem pd_l2 : parseMethodDescriptor "(Ljava/lang/Object;Ljava/lang/Object;)V" = some ⟨[(.object "java/lang/Object"), (.object "java/lang/Object")], none⟩ := by decide +kernel
theorem pd_ln : parseMethodDescriptor "([Ljava/lang/Object;Z)V" = some ⟨[(.array (.object "java/lang/Object")), .boolean], none⟩ := by decide +kernel
theorem pn_al : plainName "java/util/ArrayList" = true := by first | (simp [plainName, overriddenIn]; done) | decide +kernel
theorem pn_abl : plainName "java/util/AbstractList" = true := by first | (simp [plainName, overriddenIn]; done) | decide +kernel
theorem pn_abc : plainName "java/util/AbstractCollection" = true := by first | (simp [plainName, overriddenIn]; done) | decide +kernel
theorem pn_imc : plainName "java/util/ImmutableCollections" = true := by first | (simp [plainName, overriddenIn]; done) | decide +kernel
theorem pn_l12 : plainName "java/util/ImmutableCollections$List12" = true := by first | (simp [plainName, overriddenIn]; done) | decide +kernel
theorem pn_ln : plainName "java/util/ImmutableCollections$ListN" = true := by first | (simp [plainName, overriddenIn]; done) | decide +kernel
theorem pn_ail : plainName "java/util/ImmutableCollections$AbstractImmutableList" = true := by first | (simp [plainName, overriddenIn]; done) | decide +kernel
theorem pn_aic : plainName "java/util/ImmutableCollections$AbstractImmutableCollection" = true := by first | (simp [plainName, overriddenIn]; done) | decide +kernel
theorem pn_obs : plainName "java/util/Objects" = true := by first | (simp [plainName, overriddenIn]; done) | decide +kernel
theorem pn_lst : plainName "java/util/List" = true := by first | (simp [plainName, overriddenIn]; done) | decide +kernel
theorem pn_ars : plainName "java/util/Arrays" = true := by first | (simp [plainName, overriddenIn]; done) | decide +kernel
def Rv (vs : List Addr) : List Value := vs.map Value.ref
def LF (Z : State) (N1 E0 e0 EM mr : Addr) (k1 k2 : ClassId) : Prop := Sta Z Z.heap "java/util/ArrayList" "DEFAULTCAPACITY_EMPTY_ELEMENTDATA" "[Ljava/lang/Object;" (.ref N1) ∧ Arv Z Z.heap N1 k1 (.object "java/lang/Object") 0 [] .null ∧ Sta Z Z.heap "java/util/ImmutableCollections" "EMPTY_LIST" "Ljava/util/ImmutableCollections$ListN;" (.ref E0) ∧ Exa Z Z.heap E0 "java/util/ImmutableCollections$ListN" ∧ Fld Z Z.heap E0 "java/util/ImmutableCollections$ListN" "elements" "[Ljava/lang/Object;" (.ref e0) ∧ Arv Z Z.heap e0 k2 (.object "java/lang/Object") 0 [] .null ∧ Sta Z Z.heap "java/util/ImmutableCollections" "EMPTY" "Ljava/lang/Object;" (.ref EM) ∧ Exa Z Z.heap EM "java/lang/Object" ∧ Mi Z "[Ljava/lang/Object;" mr
def ALo (Z : State) (h : Heap) (x ar : Addr) (k : ClassId) (vs : List Addr) : Prop := Exa Z h x "java/util/ArrayList" ∧ Fld Z h x "java/util/ArrayList" "elementData" "[Ljava/lang/Object;" (.ref ar) ∧ Fld Z h x "java/util/ArrayList" "size" "I" (.int (Int32.ofNat vs.length)) ∧ (∃ m, Fld Z h x "java/util/AbstractList" "modCount" "I" (.int m)) ∧ Arv Z h ar k (.object "java/lang/Object") 10 (Rv vs) .null ∧ Exa Z h ar "[Ljava/lang/Object;" ∧ Ovr Z k "java/lang/Object" ∧ Z.heap.size ≤ x ∧ Z.heap.size ≤ ar
theorem ALo.ext {Z : State} {h h' : Heap} {x ar : Addr} {k : ClassId} {vs : List Addr} (F : ALo Z h x ar k vs) (E : Ext h h') : ALo Z h' x ar k vs := by
  obtain ⟨f1, f2, f3, ⟨m, f4⟩, f5, f6, r⟩ := F
  exact ⟨f1.ext E, f2.ext E, f3.ext E, ⟨m, f4.ext E⟩, f5.ext E, f6.ext E, r⟩
theorem snoc_pad {vs : List Value} {n : Nat} (d v : Value) (h : vs.length < n) (j : Nat) : (vs ++ [v]).getD j d = (setv vs n vs.length d v).getD j d := by
  unfold setv
  simp only [List.getD_eq_getElem?_getD]
  rcases Nat.lt_trichotomy j vs.length with q | q | q
  · rw [List.getElem?_append_left q, List.getElem?_set_ne (by omega), List.getElem?_append_left q]
  · subst q
    rw [List.getElem?_append_right (Nat.le_refl _), List.getElem?_set_self (by rw [List.length_append, List.length_replicate]; omega), Nat.sub_self]; rfl
  · rw [List.getElem?_eq_none (by rw [List.length_append]; simp; omega), List.getElem?_set_ne (by omega), List.getElem?_append_right (by omega), List.getElem?_replicate]
    split <;> rfl
theorem ofN_lt2 {a b : Nat} (h : a ≤ 4000) (g : b ≤ 4000) : Int32.ofNat a < Int32.ofNat b ↔ a < b := by rw [Int32.lt_iff_toInt_lt, ofN h, ofN g]; omega
set_option maxRecDepth 65536 in
set_option maxHeartbeats 40000000 in
theorem c_rn2 {l : Launch} {Z : State} {a0 : Array Value} {z0 : Int32} {fm : Value} (G : Env1 Z a0 z0 fm) (a b : Addr) (h : Heap) : Ctr Z consts_1 false l [] (⟨"java/util/Objects", "requireNonNull", "(Ljava/lang/Object;Ljava/lang/String;)Ljava/lang/Object;"⟩ : MethodName) jdk_31_method_11_code 2 (some (.object "java/lang/Object")) ({ frames := 0, cells := 0, slots := 0, locals := 0 } : Room) #[(.ref a), (.ref b)] h [] (fun v h' => h' = h ∧ v = some (.ref a)) := by
  obtain ⟨hw, hEL, O2, P5, O4⟩ := id G
  refine Ctr.of_run (a0 := a0) (L0 := #[.val (.ref a), .val (.ref b)]) (plainFor_of_name pn_obs) hEL (by first | (simp [argsToLocals, Value.category, maxLocals]; done) | rfl) (fun K hK => ?_)
  refine Run.pure hK (seg := [(0, .aload_n 0, 1)]) (by decide +kernel) (pc' := 1) (L' := #[.val (.ref a), .val (.ref b)]) (S' := [(.ref a)]) rfl ?_
  refine Run.ifnnr hK (o := 12) (by decide +kernel) (by decide) (pc' := 13) rfl ?_
  refine Run.pure hK (seg := [(13, .aload_n 0, 1)]) (by decide +kernel) (pc' := 14) (L' := #[.val (.ref a), .val (.ref b)]) (S' := [(.ref a)]) rfl ?_
  exact Run.retw hK (i := .areturn) rfl (Or.inr (Or.inr (Or.inr (Or.inr ⟨rfl, rfl, rfl⟩)))) (by decide +kernel) (by decide) (by decide) ⟨rfl, rfl⟩
set_option maxRecDepth 65536 in
set_option maxHeartbeats 40000000 in
theorem c_rn1 {l : Launch} {Z : State} {a0 : Array Value} {z0 : Int32} {fm : Value} (G : Env1 Z a0 z0 fm) (a : Addr) (h : Heap) : Ctr Z consts_1 false l [] (⟨"java/util/Objects", "requireNonNull", "(Ljava/lang/Object;)Ljava/lang/Object;"⟩ : MethodName) jdk_31_method_10_code 1 (some (.object "java/lang/Object")) ({ frames := 0, cells := 0, slots := 0, locals := 0 } : Room) #[(.ref a)] h [] (fun v h' => h' = h ∧ v = some (.ref a)) := by
  obtain ⟨hw, hEL, O2, P5, O4⟩ := id G
  refine Ctr.of_run (a0 := a0) (L0 := #[.val (.ref a)]) (plainFor_of_name pn_obs) hEL (by first | (simp [argsToLocals, Value.category, maxLocals]; done) | rfl) (fun K hK => ?_)
  refine Run.pure hK (seg := [(0, .aload_n 0, 1)]) (by decide +kernel) (pc' := 1) (L' := #[.val (.ref a)]) (S' := [(.ref a)]) rfl ?_
  refine Run.ifnnr hK (o := 11) (by decide +kernel) (by decide) (pc' := 12) rfl ?_
  refine Run.pure hK (seg := [(12, .aload_n 0, 1)]) (by decide +kernel) (pc' := 13) (L' := #[.val (.ref a)]) (S' := [(.ref a)]) rfl ?_
  exact Run.retw hK (i := .areturn) rfl (Or.inr (Or.inr (Or.inr (Or.inr ⟨rfl, rfl, rfl⟩)))) (by decide +kernel) (by decide) (by decide) ⟨rfl, rfl⟩
set_option maxRecDepth 65536 in
set_option maxHeartbeats 40000000 in
theorem c_max {l : Launch} {Z : State} {a0 : Array Value} {z0 : Int32} {fm : Value} (G : Env1 Z a0 z0 fm) (x y : Int32) (h : Heap) : Ctr Z consts_1 false l [] (⟨"java/lang/Math", "max", "(II)I"⟩ : MethodName) jdk_29_method_65_code 2 (some .int) ({ frames := 0, cells := 0, slots := 0, locals := 0 } : Room) #[(.int x), (.int y)] h [] (fun v h' => h' = h ∧ v = some (.int (if x < y then y else x))) := by
  obtain ⟨hw, hEL, O2, P5, O4⟩ := id G
  refine Ctr.of_run (a0 := a0) (L0 := #[.val (.int x), .val (.int y)]) (Jvm.Free.JP.mathPlain rfl (by decide +kernel)) hEL (by first | (simp [argsToLocals, Value.category, maxLocals]; done) | rfl) (fun K hK => ?_)
  refine Run.pure hK (seg := [(0, .iload_n 0, 1), (1, .iload_n 1, 1)]) (by decide +kernel) (pc' := 2) (L' := #[.val (.int x), .val (.int y)]) (S' := [(.int y), (.int x)]) rfl ?_
  refine Run.icmp hK (cd := .lt) (o := 7) (by decide +kernel) (by decide) (pc' := 9) rfl (fun q => ?_) (fun q => ?_)
  · replace q := (h_lt _ _).1 q
    refine Run.pure hK (seg := [(9, .iload_n 1, 1)]) (by decide +kernel) (pc' := 10) (L' := #[.val (.int x), .val (.int y)]) (S' := [(.int y)]) rfl ?_
    exact Run.retw hK (i := .ireturn) rfl (Or.inl ⟨rfl, Or.inl rfl, _, rfl⟩) (by decide +kernel) (by decide) (by decide) ⟨rfl, by rw [if_pos q]⟩
  · replace q := (h_lt _ _).2 q
    refine Run.pure hK (seg := [(5, .iload_n 0, 1), (6, .goto 4, 3)]) (by decide +kernel) (pc' := 10) (L' := #[.val (.int x), .val (.int y)]) (S' := [(.int x)]) rfl ?_
    exact Run.retw hK (i := .ireturn) rfl (Or.inl ⟨rfl, Or.inl rfl, _, rfl⟩) (by decide +kernel) (by decide) (by decide) ⟨rfl, by rw [if_neg q]⟩
set_option maxRecDepth 65536 in
set_option maxHeartbeats 40000000 in
theorem c_min {l : Launch} {Z : State} {a0 : Array Value} {z0 : Int32} {fm : Value} (G : Env1 Z a0 z0 fm) (x y : Int32) (h : Heap) : Ctr Z consts_1 false l [] (⟨"java/lang/Math", "min", "(II)I"⟩ : MethodName) jdk_29_method_69_code 2 (some .int) ({ frames := 0, cells := 0, slots := 0, locals := 0 } : Room) #[(.int x), (.int y)] h [] (fun v h' => h' = h ∧ v = some (.int (if y < x then y else x))) := by
  obtain ⟨hw, hEL, O2, P5, O4⟩ := id G
  refine Ctr.of_run (a0 := a0) (L0 := #[.val (.int x), .val (.int y)]) (Jvm.Free.JP.mathPlain rfl (by decide +kernel)) hEL (by first | (simp [argsToLocals, Value.category, maxLocals]; done) | rfl) (fun K hK => ?_)
  refine Run.pure hK (seg := [(0, .iload_n 0, 1), (1, .iload_n 1, 1)]) (by decide +kernel) (pc' := 2) (L' := #[.val (.int x), .val (.int y)]) (S' := [(.int y), (.int x)]) rfl ?_
  refine Run.icmp hK (cd := .gt) (o := 7) (by decide +kernel) (by decide) (pc' := 9) rfl (fun q => ?_) (fun q => ?_)
  · replace q := (h_gt _ _).1 q
    refine Run.pure hK (seg := [(9, .iload_n 1, 1)]) (by decide +kernel) (pc' := 10) (L' := #[.val (.int x), .val (.int y)]) (S' := [(.int y)]) rfl ?_
    exact Run.retw hK (i := .ireturn) rfl (Or.inl ⟨rfl, Or.inl rfl, _, rfl⟩) (by decide +kernel) (by decide) (by decide) ⟨rfl, by rw [if_pos q]⟩
  · replace q := (h_gt _ _).2 q
    refine Run.pure hK (seg := [(5, .iload_n 0, 1), (6, .goto 4, 3)]) (by decide +kernel) (pc' := 10) (L' := #[.val (.int x), .val (.int y)]) (S' := [(.int x)]) rfl ?_
    exact Run.retw hK (i := .ireturn) rfl (Or.inl ⟨rfl, Or.inl rfl, _, rfl⟩) (by decide +kernel) (by decide) (by decide) ⟨rfl, by rw [if_neg q]⟩
set_option maxRecDepth 65536 in
set_option maxHeartbeats 40000000 in
theorem c_abc {l : Launch} {Z : State} {a0 : Array Value} {z0 : Int32} {fm : Value} (G : Env1 Z a0 z0 fm) (x0 : Addr) (h : Heap) : Ctr Z consts_1 false l [] (⟨"java/util/AbstractCollection", "<init>", "()V"⟩ : MethodName) jdk_22_method_1_code 1 none ({ frames := 1, cells := 0, slots := 0, locals := 12 } : Room) #[(.ref x0)] h [] (fun v h' => h' = h ∧ v = none) := by
  obtain ⟨hw, hEL, O2, P5, O4⟩ := id G
  refine Ctr.of_run (a0 := a0) (L0 := #[.val (.ref x0)]) (plainFor_of_name pn_abc) hEL (by first | (simp [argsToLocals, Value.category, maxLocals]; done) | rfl) (fun K hK => ?_)
  refine Run.pure hK (seg := [(0, .aload_n 0, 1)]) (by decide +kernel) (pc' := 1) (L' := #[.val (.ref x0)]) (S' := [(.ref x0)]) rfl ?_
  refine Run.initobj hK (index := 1) (hw _ (List.mem_of_getElem? (i := 109) rfl)) (hw _ (List.mem_of_getElem? (i := 16) rfl)) (hw _ (List.mem_of_getElem? (i := 17) rfl)) rfl (by decide +kernel) (by decide) (Wt := 0) (Nat.le_of_ble_eq_true rfl) (by decide) ?_
  exact Run.retv hK (by decide +kernel) (by decide) (by decide) ⟨rfl, rfl⟩
set_option maxRecDepth 65536 in
set_option maxHeartbeats 40000000 in
theorem c_aic {l : Launch} {Z : State} {a0 : Array Value} {z0 : Int32} {fm : Value} (G : Env1 Z a0 z0 fm) (x0 : Addr) (h : Heap) : Ctr Z consts_1 false l [] (⟨"java/util/ImmutableCollections$AbstractImmutableCollection", "<init>", "()V"⟩ : MethodName) jdk_47_method_1_code 1 none ({ frames := 2, cells := 0, slots := 0, locals := 26 } : Room) #[(.ref x0)] h [] (fun v h' => h' = h ∧ v = none) := by
  obtain ⟨hw, hEL, O2, P5, O4⟩ := id G
  refine Ctr.of_run (a0 := a0) (L0 := #[.val (.ref x0)]) (plainFor_of_name pn_aic) hEL (by first | (simp [argsToLocals, Value.category, maxLocals]; done) | rfl) (fun K hK => ?_)
  refine Run.pure hK (seg := [(0, .aload_n 0, 1)]) (by decide +kernel) (pc' := 1) (L' := #[.val (.ref x0)]) (S' := [(.ref x0)]) rfl ?_
  refine Run.special hK (index := 1) (y := (⟨"java/util/AbstractCollection", "<init>", "()V"⟩ : MethodName)) (Wt := 0) (kc := 0) (ks := 0) rfl (hw _ (List.mem_of_getElem? (i := 253) rfl)) (hw _ (List.mem_of_getElem? (i := 104) rfl)) (hw _ (List.mem_of_getElem? (i := 108) rfl)) (by decide) (a := x0) (W' := []) (fun _ q => nomatch q) (Ctr.cal (c_abc G x0 h) (hw _ (List.mem_of_getElem? (i := 108) rfl)) (hw _ (List.mem_of_getElem? (i := 107) rfl)) (by decide) (by decide)) rfl (argsL := []) (rest := []) (lenOf pd_v rfl) rfl (Nat.le_of_ble_eq_true rfl) (by decide +kernel) (by decide) (by decide) (fun v1 h1 q1 n1 => ?_)
  obtain ⟨rfl, rfl⟩ := q1
  exact Run.retv hK (by decide +kernel) (by decide) (by decide) ⟨rfl, rfl⟩
set_option maxRecDepth 65536 in
set_option maxHeartbeats 40000000 in
theorem c_ail {l : Launch} {Z : State} {a0 : Array Value} {z0 : Int32} {fm : Value} (G : Env1 Z a0 z0 fm) (x0 : Addr) (h : Heap) : Ctr Z consts_1 false l [] (⟨"java/util/ImmutableCollections$AbstractImmutableList", "<init>", "()V"⟩ : MethodName) jdk_46_method_1_code 1 none ({ frames := 3, cells := 0, slots := 0, locals := 40 } : Room) #[(.ref x0)] h [] (fun v h' => h' = h ∧ v = none) := by
  obtain ⟨hw, hEL, O2, P5, O4⟩ := id G
  refine Ctr.of_run (a0 := a0) (L0 := #[.val (.ref x0)]) (plainFor_of_name pn_ail) hEL (by first | (simp [argsToLocals, Value.category, maxLocals]; done) | rfl) (fun K hK => ?_)
  refine Run.pure hK (seg := [(0, .aload_n 0, 1)]) (by decide +kernel) (pc' := 1) (L' := #[.val (.ref x0)]) (S' := [(.ref x0)]) rfl ?_
  refine Run.special hK (index := 1) (y := (⟨"java/util/ImmutableCollections$AbstractImmutableCollection", "<init>", "()V"⟩ : MethodName)) (Wt := 0) (kc := 0) (ks := 0) rfl (hw _ (List.mem_of_getElem? (i := 247) rfl)) (hw _ (List.mem_of_getElem? (i := 248) rfl)) (hw _ (List.mem_of_getElem? (i := 252) rfl)) (by decide) (a := x0) (W' := []) (fun _ q => nomatch q) (Ctr.cal (c_aic G x0 h) (hw _ (List.mem_of_getElem? (i := 252) rfl)) (hw _ (List.mem_of_getElem? (i := 251) rfl)) (by decide) (by decide)) rfl (argsL := []) (rest := []) (lenOf pd_v rfl) rfl (Nat.le_of_ble_eq_true rfl) (by decide +kernel) (by decide) (by decide) (fun v1 h1 q1 n1 => ?_)
  obtain ⟨rfl, rfl⟩ := q1
  exact Run.retv hK (by decide +kernel) (by decide) (by decide) ⟨rfl, rfl⟩
set_option maxRecDepth 65536 in
set_option maxHeartbeats 40000000 in
theorem c_abl {l : Launch} {Z : State} {a0 : Array Value} {z0 : Int32} {fm : Value} (G : Env1 Z a0 z0 fm) (x0 : Addr) (h : Heap) (hx0 : Z.heap.size ≤ x0) (X : Exa Z h x0 "java/util/ArrayList") {u1 u2 u3 : Value} (Fl : Fld Z h x0 "java/util/ArrayList" "elementData" "[Ljava/lang/Object;" u1 ∧ Fld Z h x0 "java/util/ArrayList" "size" "I" u2 ∧ Fld Z h x0 "java/util/AbstractList" "modCount" "I" u3) : Ctr Z consts_1 false l [] (⟨"java/util/AbstractList", "<init>", "()V"⟩ : MethodName) jdk_39_method_1_code 1 none ({ frames := 2, cells := 0, slots := 0, locals := 28 } : Room) #[(.ref x0)] h [] (fun v h' => v = none ∧ Exa Z h' x0 "java/util/ArrayList" ∧ (Fld Z h' x0 "java/util/ArrayList" "elementData" "[Ljava/lang/Object;" u1 ∧ Fld Z h' x0 "java/util/ArrayList" "size" "I" u2 ∧ Fld Z h' x0 "java/util/AbstractList" "modCount" "I" (.int 0)) ∧ Keep h h' [x0]) := by
  obtain ⟨hw, hEL, O2, P5, O4⟩ := id G
  refine Ctr.of_run (a0 := a0) (L0 := #[.val (.ref x0)]) (plainFor_of_name pn_abl) hEL (by first | (simp [argsToLocals, Value.category, maxLocals]; done) | rfl) (fun K hK => ?_)
  obtain ⟨Fe, Fs, Fm⟩ := Fl
  refine Run.pure hK (seg := [(0, .aload_n 0, 1)]) (by decide +kernel) (pc' := 1) (L' := #[.val (.ref x0)]) (S' := [(.ref x0)]) rfl ?_
  refine Run.special hK (index := 1) (y := (⟨"java/util/AbstractCollection", "<init>", "()V"⟩ : MethodName)) (Wt := 0) (kc := 0) (ks := 0) rfl (hw _ (List.mem_of_getElem? (i := 103) rfl)) (hw _ (List.mem_of_getElem? (i := 104) rfl)) (hw _ (List.mem_of_getElem? (i := 108) rfl)) (by decide) (a := x0) (W' := []) (fun _ q => nomatch q) (Ctr.cal (c_abc G x0 h) (hw _ (List.mem_of_getElem? (i := 108) rfl)) (hw _ (List.mem_of_getElem? (i := 107) rfl)) (by decide) (by decide)) rfl (argsL := []) (rest := []) (lenOf pd_v rfl) rfl (Nat.le_of_ble_eq_true rfl) (by decide +kernel) (by decide) (by decide) (fun v1 h1 q1 n1 => ?_)
  obtain ⟨rfl, rfl⟩ := q1
  refine Run.pure hK (seg := [(4, .aload_n 0, 1), (5, .iconst 0, 1)]) (by decide +kernel) (pc' := 6) (L' := #[.val (.ref x0)]) (S' := [(.int (0 : Int32)), (.ref x0)]) rfl ?_
  refine Run.putf hK (index := 7) (host := "") (Or.inl (hw _ (List.mem_of_getElem? (i := 110) rfl))) Via.refl Fm X (Or.inl (hw _ (List.mem_of_getElem? (i := 111) rfl))) (hw _ (List.mem_of_getElem? (i := 92) rfl)) (ty := .int) (by decide) rfl rfl hx0 (sfE X (by decide) (by decide)) (by decide +kernel) (fun h2 W2 => ?_)
  replace Fe := Fe.other W2 (Or.inr (slot_ne (Or.inl (hw _ (List.mem_of_getElem? (i := 114) rfl))) (Or.inl (hw _ (List.mem_of_getElem? (i := 111) rfl))) (by decide) (by decide : parseFieldDescriptor "[Ljava/lang/Object;" = some (.array (.object "java/lang/Object"))) (by decide : parseFieldDescriptor "I" = some .int)))
  replace Fs := Fs.other W2 (Or.inr (slot_ne (Or.inl (hw _ (List.mem_of_getElem? (i := 144) rfl))) (Or.inl (hw _ (List.mem_of_getElem? (i := 111) rfl))) (by decide) (by decide : parseFieldDescriptor "I" = some .int) (by decide : parseFieldDescriptor "I" = some .int)))
  replace Fm := Fm.same W2
  replace X := X.wr W2
  exact Run.retv hK (by decide +kernel) (by decide) (by decide) ⟨rfl, X, ⟨Fe, Fs, Fm⟩, (Keep.refl _ [x0]).wr W2 (Or.inl (List.mem_singleton.mpr rfl))⟩
set_option maxRecDepth 65536 in
set_option maxHeartbeats 40000000 in
theorem c_ali {l : Launch} {Z : State} {a0 : Array Value} {z0 : Int32} {fm : Value} (G : Env1 Z a0 z0 fm) (x0 : Addr) {N1 E0 e0 EM mr : Addr} {k1 k2 : ClassId} (LX : LF Z N1 E0 e0 EM mr k1 k2) (h : Heap) (hx0 : Z.heap.size ≤ x0) (X : Exa Z h x0 "java/util/ArrayList") {u1 u2 u3 : Value} (Fl : Fld Z h x0 "java/util/ArrayList" "elementData" "[Ljava/lang/Object;" u1 ∧ Fld Z h x0 "java/util/ArrayList" "size" "I" u2 ∧ Fld Z h x0 "java/util/AbstractList" "modCount" "I" u3) : Ctr Z consts_1 false l [] (⟨"java/util/ArrayList", "<init>", "()V"⟩ : MethodName) jdk_38_method_2_code 1 none ({ frames := 3, cells := 0, slots := 0, locals := 44 } : Room) #[(.ref x0)] h [] (fun v h' => v = none ∧ Exa Z h' x0 "java/util/ArrayList" ∧ (Fld Z h' x0 "java/util/ArrayList" "elementData" "[Ljava/lang/Object;" (.ref N1) ∧ Fld Z h' x0 "java/util/ArrayList" "size" "I" u2 ∧ Fld Z h' x0 "java/util/AbstractList" "modCount" "I" (.int 0)) ∧ Keep h h' [x0]) := by
  obtain ⟨hw, hEL, O2, P5, O4⟩ := id G
  refine Ctr.of_run (a0 := a0) (L0 := #[.val (.ref x0)]) (plainFor_of_name pn_al) hEL (by first | (simp [argsToLocals, Value.category, maxLocals]; done) | rfl) (fun K hK => ?_)
  obtain ⟨SD, AD, SE, XE, FE, AE, SM, XM, MI⟩ := id LX
  refine Run.old (fun hO => ?_)
  refine Run.pure hK (seg := [(0, .aload_n 0, 1)]) (by decide +kernel) (pc' := 1) (L' := #[.val (.ref x0)]) (S' := [(.ref x0)]) rfl ?_
  refine Run.special hK (index := 1) (y := (⟨"java/util/AbstractList", "<init>", "()V"⟩ : MethodName)) (Wt := 0) (kc := 0) (ks := 0) rfl (hw _ (List.mem_of_getElem? (i := 97) rfl)) (hw _ (List.mem_of_getElem? (i := 98) rfl)) (hw _ (List.mem_of_getElem? (i := 102) rfl)) (by decide) (a := x0) (W' := []) (fun _ q => nomatch q) (Ctr.cal (c_abl G x0 h hx0 X Fl) (hw _ (List.mem_of_getElem? (i := 102) rfl)) (hw _ (List.mem_of_getElem? (i := 101) rfl)) (by decide) (by decide)) rfl (argsL := []) (rest := []) (lenOf pd_v rfl) rfl (Nat.le_of_ble_eq_true rfl) (by decide +kernel) (by decide) (by decide) (fun v1 h1 q1 n1 => ?_)
  obtain ⟨rfl, X, ⟨Fe, Fs, Fm⟩, K1⟩ := q1
  refine Run.old (fun hO1 => ?_)
  refine Run.pure hK (seg := [(4, .aload_n 0, 1)]) (by decide +kernel) (pc' := 5) (L' := #[.val (.ref x0)]) (S' := [(.ref x0)]) rfl ?_
  refine Run.gets hK (index := 39) (hw _ (List.mem_of_getElem? (i := 112) rfl)) Via.refl (SD.ext hO1) (by decide +kernel) ?_
  refine Run.putf hK (index := 9) (host := "") (Or.inl (hw _ (List.mem_of_getElem? (i := 113) rfl))) Via.refl Fe X (Or.inl (hw _ (List.mem_of_getElem? (i := 114) rfl))) (hw _ (List.mem_of_getElem? (i := 92) rfl)) (ty := (.array (.object "java/lang/Object"))) (by decide) rfl rfl hx0 (sfE X (by decide) (by decide)) (by decide +kernel) (fun h2 W2 => ?_)
  replace Fe := Fe.same W2
  replace Fs := Fs.other W2 (Or.inr (slot_ne (Or.inl (hw _ (List.mem_of_getElem? (i := 144) rfl))) (Or.inl (hw _ (List.mem_of_getElem? (i := 114) rfl))) (by decide) (by decide : parseFieldDescriptor "I" = some .int) (by decide : parseFieldDescriptor "[Ljava/lang/Object;" = some (.array (.object "java/lang/Object")))))
  replace Fm := Fm.other W2 (Or.inr (slot_ne (Or.inl (hw _ (List.mem_of_getElem? (i := 111) rfl))) (Or.inl (hw _ (List.mem_of_getElem? (i := 114) rfl))) (by decide) (by decide : parseFieldDescriptor "I" = some .int) (by decide : parseFieldDescriptor "[Ljava/lang/Object;" = some (.array (.object "java/lang/Object")))))
  replace X := X.wr W2
  exact Run.retv hK (by decide +kernel) (by decide) (by decide) ⟨rfl, X, ⟨Fe, Fs, Fm⟩, K1.wr W2 (Or.inl (List.mem_singleton.mpr rfl))⟩
set_option maxRecDepth 65536 in
set_option maxHeartbeats 40000000 in
theorem c_g1 {l : Launch} {Z : State} {a0 : Array Value} {z0 : Int32} {fm : Value} (G : Env1 Z a0 z0 fm) (x0 : Addr) {N1 E0 e0 EM mr : Addr} {k1 k2 : ClassId} (LX : LF Z N1 E0 e0 EM mr k1 k2) (h : Heap) (hx0 : Z.heap.size ≤ x0) (X : Exa Z h x0 "java/util/ArrayList") {m : Int32} (Fl : Fld Z h x0 "java/util/ArrayList" "elementData" "[Ljava/lang/Object;" (.ref N1) ∧ Fld Z h x0 "java/util/ArrayList" "size" "I" (.int 0) ∧ Fld Z h x0 "java/util/AbstractList" "modCount" "I" (.int m)) : Ctr Z consts_1 false l [] (⟨"java/util/ArrayList", "grow", "(I)[Ljava/lang/Object;"⟩ : MethodName) jdk_38_method_6_code 4 (some (.array (.object "java/lang/Object"))) ({ frames := 1, cells := 1, slots := 10, locals := 20 } : Room) #[(.ref x0), (.int (1 : Int32))] h [] (fun v h' => ∃ ar k, v = some (.ref ar) ∧ ALo Z h' x0 ar k [] ∧ h.size ≤ ar ∧ Keep h h' [x0]) := by
  obtain ⟨hw, hEL, O2, P5, O4⟩ := id G
  refine Ctr.of_run (a0 := a0) (L0 := #[.val (.ref x0), .val (.int (1 : Int32)), .unset, .unset]) (plainFor_of_name pn_al) hEL (by first | (simp [argsToLocals, Value.category, maxLocals]; done) | rfl) (fun K hK => ?_)
  obtain ⟨SD, AD, SE, XE, FE, AE, SM, XM, MI⟩ := id LX
  obtain ⟨Fe, Fs, Fm⟩ := Fl
  have xlt := X.lt
  refine Run.old (fun hO => ?_)
  refine Run.pure hK (seg := [(0, .aload_n 0, 1)]) (by decide +kernel) (pc' := 1) (L' := #[.val (.ref x0), .val (.int (1 : Int32)), .unset, .unset]) (S' := [(.ref x0)]) rfl ?_
  refine Run.getf hK (index := 9) (host := "") (Or.inl (hw _ (List.mem_of_getElem? (i := 113) rfl))) Via.refl Fe (by decide +kernel) ?_
  refine Run.alen hK (AD.ext hO) (by decide +kernel) ?_
  refine Run.pure hK (seg := [(5, .istore_n 2, 1), (6, .iload_n 2, 1)]) (by decide +kernel) (pc' := 7) (L' := #[.val (.ref x0), .val (.int (1 : Int32)), .val (.int (0 : Int32)), .unset]) (S' := [(.int (0 : Int32))]) rfl ?_
  refine Run.ifz hK (cd := .gt) (o := 13) (by decide +kernel) (by decide) (pc' := 20) rfl (fun q => by replace q := (h_gt _ _).1 q; exact absurd q (by decide)) (fun _ => ?_)
  refine Run.pure hK (seg := [(10, .aload_n 0, 1)]) (by decide +kernel) (pc' := 11) (L' := #[.val (.ref x0), .val (.int (1 : Int32)), .val (.int (0 : Int32)), .unset]) (S' := [(.ref x0)]) rfl ?_
  refine Run.getf hK (index := 9) (host := "") (Or.inl (hw _ (List.mem_of_getElem? (i := 113) rfl))) Via.refl Fe (by decide +kernel) ?_
  refine Run.gets hK (index := 39) (hw _ (List.mem_of_getElem? (i := 112) rfl)) Via.refl (SD.ext hO) (by decide +kernel) ?_
  refine Run.acmp hK (cd := .eq) (o := 28) (same := true) rfl rfl (by simp) (by decide +kernel) (by decide) (pc' := 45) rfl ?_
  refine Run.pure hK (seg := [(45, .aload_n 0, 1), (46, .bipush 10, 2), (48, .iload_n 1, 1)]) (by decide +kernel) (pc' := 49) (L' := #[.val (.ref x0), .val (.int (1 : Int32)), .val (.int (0 : Int32)), .unset]) (S' := [(.int (1 : Int32)), (.int (10 : Int32)), (.ref x0)]) rfl ?_
  refine Run.static hK (index := 79) (y := (⟨"java/lang/Math", "max", "(II)I"⟩ : MethodName)) (Wt := 1) (kc := 0) (ks := 0) (hw _ (List.mem_of_getElem? (i := 160) rfl)) (hw _ (List.mem_of_getElem? (i := 161) rfl)) (hw _ (List.mem_of_getElem? (i := 162) rfl)) (hw _ (List.mem_of_getElem? (i := 163) rfl)) (by decide) (W' := []) (fun _ q => nomatch q) (Ctr.cal (c_max G (10 : Int32) (1 : Int32) h) (hw _ (List.mem_of_getElem? (i := 163) rfl)) (hw _ (List.mem_of_getElem? (i := 162) rfl)) (by decide) (by decide)) rfl (argsL := [(.int (10 : Int32)), (.int (1 : Int32))]) (rest := [(.ref x0)]) (lenOf pd_ii rfl) rfl (Nat.le_of_ble_eq_true rfl) (by decide +kernel) (by decide) (by decide) (fun v1 h1 q1 n1 => ?_)
  obtain ⟨rfl, rfl⟩ := q1
  rw [if_neg (by decide : ¬ (10 : Int32) < 1)]
  refine Run.newr hK (index := 7) (Oc := "java/lang/Object") (hw _ (List.mem_of_getElem? (i := 164) rfl)) (hw _ (List.mem_of_getElem? (i := 165) rfl)) (by decide +kernel) (by decide) (cap := 10) (by decide) (by decide) (by decide) (by decide) (ad := "[Ljava/lang/Object;") (by decide +kernel) (fun hr kr Er Ar Xr Ovr_ => ?_)
  obtain ⟨ar, zr⟩ : ∃ z, z = h1.size := ⟨_, rfl⟩
  rw [← zr]
  rw [← zr] at Ar Xr
  have nr : ar ≠ x0 := fun z => absurd xlt (by rw [← z, zr]; exact Nat.lt_irrefl _)
  refine Run.pure hK (seg := [(55, .dup_x1, 1)]) (by decide +kernel) (pc' := 56) (L' := #[.val (.ref x0), .val (.int (1 : Int32)), .val (.int (0 : Int32)), .unset]) (S' := [(.ref ar), (.ref x0), (.ref ar)]) rfl ?_
  replace Fe := Fe.ext Er
  replace Fs := Fs.ext Er
  replace Fm := Fm.ext Er
  replace X := X.ext Er
  refine Run.putf hK (index := 9) (host := "") (Or.inl (hw _ (List.mem_of_getElem? (i := 113) rfl))) Via.refl Fe X (Or.inl (hw _ (List.mem_of_getElem? (i := 114) rfl))) (hw _ (List.mem_of_getElem? (i := 92) rfl)) (ty := (.array (.object "java/lang/Object"))) (by decide) rfl rfl hx0 (sfE X (by decide) (by decide)) (by decide +kernel) (fun h2 W2 => ?_)
  replace Fe := Fe.same W2
  replace Fs := Fs.other W2 (Or.inr (slot_ne (Or.inl (hw _ (List.mem_of_getElem? (i := 144) rfl))) (Or.inl (hw _ (List.mem_of_getElem? (i := 114) rfl))) (by decide) (by decide : parseFieldDescriptor "I" = some .int) (by decide : parseFieldDescriptor "[Ljava/lang/Object;" = some (.array (.object "java/lang/Object")))))
  replace Fm := Fm.other W2 (Or.inr (slot_ne (Or.inl (hw _ (List.mem_of_getElem? (i := 111) rfl))) (Or.inl (hw _ (List.mem_of_getElem? (i := 114) rfl))) (by decide) (by decide : parseFieldDescriptor "I" = some .int) (by decide : parseFieldDescriptor "[Ljava/lang/Object;" = some (.array (.object "java/lang/Object")))))
  replace X := X.wr W2
  replace Ar := Ar.other W2 nr
  replace Xr := Xr.wr W2
  exact Run.retw hK (i := .areturn) rfl (Or.inr (Or.inr (Or.inr (Or.inr ⟨rfl, rfl, rfl⟩)))) (by decide +kernel) (by decide) (by decide) ⟨ar, kr, rfl, ⟨X, Fe, Fs, ⟨_, Fm⟩, Ar, Xr, Ovr_, hx0, (by rw [zr]; exact hO.1)⟩, (by rw [zr]; exact Nat.le_refl _), ((Keep.refl _ [x0]).ext Er).wr W2 (Or.inl (List.mem_singleton.mpr rfl))⟩
set_option maxRecDepth 65536 in
set_option maxHeartbeats 40000000 in
theorem c_g0 {l : Launch} {Z : State} {a0 : Array Value} {z0 : Int32} {fm : Value} (G : Env1 Z a0 z0 fm) (x0 : Addr) {N1 E0 e0 EM mr : Addr} {k1 k2 : ClassId} (LX : LF Z N1 E0 e0 EM mr k1 k2) (h : Heap) (hx0 : Z.heap.size ≤ x0) (X : Exa Z h x0 "java/util/ArrayList") {m : Int32} (Fl : Fld Z h x0 "java/util/ArrayList" "elementData" "[Ljava/lang/Object;" (.ref N1) ∧ Fld Z h x0 "java/util/ArrayList" "size" "I" (.int 0) ∧ Fld Z h x0 "java/util/AbstractList" "modCount" "I" (.int m)) : Ctr Z consts_1 false l [] (⟨"java/util/ArrayList", "grow", "()[Ljava/lang/Object;"⟩ : MethodName) jdk_38_method_7_code 1 (some (.array (.object "java/lang/Object"))) ({ frames := 2, cells := 1, slots := 10, locals := 40 } : Room) #[(.ref x0)] h [] (fun v h' => ∃ ar k, v = some (.ref ar) ∧ ALo Z h' x0 ar k [] ∧ h.size ≤ ar ∧ Keep h h' [x0]) := by
  obtain ⟨hw, hEL, O2, P5, O4⟩ := id G
  refine Ctr.of_run (a0 := a0) (L0 := #[.val (.ref x0)]) (plainFor_of_name pn_al) hEL (by first | (simp [argsToLocals, Value.category, maxLocals]; done) | rfl) (fun K hK => ?_)
  refine Run.pure hK (seg := [(0, .aload_n 0, 1), (1, .aload_n 0, 1)]) (by decide +kernel) (pc' := 2) (L' := #[.val (.ref x0)]) (S' := [(.ref x0), (.ref x0)]) rfl ?_
  refine Run.getf hK (index := 48) (host := "") (Or.inl (hw _ (List.mem_of_getElem? (i := 143) rfl))) Via.refl Fl.2.1 (by decide +kernel) ?_
  refine Run.pure hK (seg := [(5, .iconst 1, 1), (6, .iadd, 1)]) (by decide +kernel) (pc' := 7) (L' := #[.val (.ref x0)]) (S' := [(.int ((0 : Int32) + (1 : Int32))), (.ref x0)]) rfl ?_
  rw [show (0 : Int32) + (1 : Int32) = (1 : Int32) from rfl]
  refine Run.privat hK (index := 69) (y := (⟨"java/util/ArrayList", "grow", "(I)[Ljava/lang/Object;"⟩ : MethodName)) (Wt := 0) (kc := 1) (ks := 10) (hw _ (List.mem_of_getElem? (i := 155) rfl)) (hw _ (List.mem_of_getElem? (i := 156) rfl)) (hw _ (List.mem_of_getElem? (i := 92) rfl)) (hw _ (List.mem_of_getElem? (i := 157) rfl)) (hw _ (List.mem_of_getElem? (i := 159) rfl)) (by decide) (a := x0) X (W' := []) (fun _ q => nomatch q) (Ctr.cal (c_g1 G x0 LX h hx0 X Fl) (hw _ (List.mem_of_getElem? (i := 159) rfl)) (hw _ (List.mem_of_getElem? (i := 93) rfl)) (by decide) (by decide)) rfl (argsL := [(.int (1 : Int32))]) (rest := []) (lenOf pd_g1 rfl) rfl (Nat.le_of_ble_eq_true rfl) (by decide +kernel) (by decide) (by decide) (fun v1 h1 q1 n1 => ?_)
  obtain ⟨a1, k1_, rfl, q⟩ := q1
  exact Run.retw hK (i := .areturn) rfl (Or.inr (Or.inr (Or.inr (Or.inr ⟨rfl, rfl, rfl⟩)))) (by decide +kernel) (by decide) (by decide) ⟨a1, k1_, rfl, q⟩
set_option maxRecDepth 65536 in
set_option maxHeartbeats 40000000 in
theorem c_ad0 {l : Launch} {Z : State} {a0 : Array Value} {z0 : Int32} {fm : Value} (G : Env1 Z a0 z0 fm) (x0 e : Addr) {N1 E0 e0 EM mr : Addr} {k1 k2 : ClassId} (LX : LF Z N1 E0 e0 EM mr k1 k2) (h : Heap) (hx0 : Z.heap.size ≤ x0) (X : Exa Z h x0 "java/util/ArrayList") {m : Int32} (Fl : Fld Z h x0 "java/util/ArrayList" "elementData" "[Ljava/lang/Object;" (.ref N1) ∧ Fld Z h x0 "java/util/ArrayList" "size" "I" (.int 0) ∧ Fld Z h x0 "java/util/AbstractList" "modCount" "I" (.int m)) (XI : Exa Z h e "java/lang/Integer") : Ctr Z consts_1 false l [] (⟨"java/util/ArrayList", "add", "(Ljava/lang/Object;[Ljava/lang/Object;I)V"⟩ : MethodName) jdk_38_method_24_code 4 none ({ frames := 3, cells := 1, slots := 10, locals := 60 } : Room) #[(.ref x0), (.ref e), (.ref N1), (.int (0 : Int32))] h [] (fun v h' => v = none ∧ ∃ ar k, ALo Z h' x0 ar k [e] ∧ h.size ≤ ar ∧ Keep h h' [x0]) := by
  obtain ⟨hw, hEL, O2, P5, O4⟩ := id G
  refine Ctr.of_run (a0 := a0) (L0 := #[.val (.ref x0), .val (.ref e), .val (.ref N1), .val (.int (0 : Int32))]) (plainFor_of_name pn_al) hEL (by first | (simp [argsToLocals, Value.category, maxLocals]; done) | rfl) (fun K hK => ?_)
  obtain ⟨SD, AD, SE, XE, FE, AE, SM, XM, MI⟩ := id LX
  refine Run.old (fun hO => ?_)
  refine Run.pure hK (seg := [(0, .iload_n 3, 1), (1, .aload_n 2, 1)]) (by decide +kernel) (pc' := 2) (L' := #[.val (.ref x0), .val (.ref e), .val (.ref N1), .val (.int (0 : Int32))]) (S' := [(.ref N1), (.int (0 : Int32))]) rfl ?_
  refine Run.alen hK (AD.ext hO) (by decide +kernel) ?_
  refine Run.icmp hK (cd := .ne) (o := 8) (by decide +kernel) (by decide) (pc' := 11) rfl (fun q => by replace q := (h_ne _ _).1 q; exact absurd rfl q) (fun _ => ?_)
  refine Run.pure hK (seg := [(6, .aload_n 0, 1)]) (by decide +kernel) (pc' := 7) (L' := #[.val (.ref x0), .val (.ref e), .val (.ref N1), .val (.int (0 : Int32))]) (S' := [(.ref x0)]) rfl ?_
  refine Run.privat hK (index := 129) (y := (⟨"java/util/ArrayList", "grow", "()[Ljava/lang/Object;"⟩ : MethodName)) (Wt := 0) (kc := 1) (ks := 10) (hw _ (List.mem_of_getElem? (i := 150) rfl)) (hw _ (List.mem_of_getElem? (i := 151) rfl)) (hw _ (List.mem_of_getElem? (i := 92) rfl)) (hw _ (List.mem_of_getElem? (i := 152) rfl)) (hw _ (List.mem_of_getElem? (i := 154) rfl)) (by decide) (a := x0) X (W' := []) (fun _ q => nomatch q) (Ctr.cal (c_g0 G x0 LX h hx0 X Fl) (hw _ (List.mem_of_getElem? (i := 154) rfl)) (hw _ (List.mem_of_getElem? (i := 93) rfl)) (by decide) (by decide)) rfl (argsL := []) (rest := []) (lenOf pd_g0 rfl) rfl (Nat.le_of_ble_eq_true rfl) (by decide +kernel) (by decide) (by decide) (fun v1 h1 q1 n1 => ?_)
  obtain ⟨ar, kr, rfl, Al, gr, K1⟩ := q1
  obtain ⟨X, Fe, Fs, ⟨m1, Fm⟩, Ar, Xr, Ov, -, gar⟩ := Al
  have XI1 := XI.keep K1
  have nr : x0 ≠ ar := X.neArv Ar (hw _ (List.mem_of_getElem? (i := 92) rfl))
  refine Run.pure hK (seg := [(10, .astore_n 2, 1), (11, .aload_n 2, 1), (12, .iload_n 3, 1), (13, .aload_n 1, 1)]) (by decide +kernel) (pc' := 14) (L' := #[.val (.ref x0), .val (.ref e), .val (.ref ar), .val (.int (0 : Int32))]) (S' := [(.ref e), (.int (0 : Int32)), (.ref ar)]) rfl ?_
  have St : Sto Z h1 ar (.ref e) := by obtain ⟨c0, a1, a2, -⟩ := Ar; exact Sto.ofV a1 a2 Ov (Ins.of_exa XI1 (hw _ (List.mem_of_getElem? (i := 166) rfl)))
  refine Run.ast hK Ar ⟨by decide, by decide⟩ St gar (sfA Ar (by decide)) (by decide +kernel) (fun h2 W2 B2 => ?_)
  replace Ar : Arv Z h2 ar kr (.object "java/lang/Object") 10 (Rv [e]) .null := B2.pad (fun j => snoc_pad (vs := []) (n := 10) .null (.ref e) (by decide) j)
  replace Fe := Fe.other W2 (Or.inl nr)
  replace Fs := Fs.other W2 (Or.inl nr)
  replace Fm := Fm.other W2 (Or.inl nr)
  replace X := X.wr W2
  replace Xr := Xr.wr W2
  refine Run.pure hK (seg := [(15, .aload_n 0, 1), (16, .iload_n 3, 1), (17, .iconst 1, 1), (18, .iadd, 1)]) (by decide +kernel) (pc' := 19) (L' := #[.val (.ref x0), .val (.ref e), .val (.ref ar), .val (.int (0 : Int32))]) (S' := [(.int ((0 : Int32) + (1 : Int32))), (.ref x0)]) rfl ?_
  rw [show (0 : Int32) + (1 : Int32) = Int32.ofNat ([e] : List Addr).length from rfl]
  refine Run.putf hK (index := 48) (host := "") (Or.inl (hw _ (List.mem_of_getElem? (i := 143) rfl))) Via.refl Fs X (Or.inl (hw _ (List.mem_of_getElem? (i := 144) rfl))) (hw _ (List.mem_of_getElem? (i := 92) rfl)) (ty := .int) (by decide) rfl rfl hx0 (sfE X (by decide) (by decide)) (by decide +kernel) (fun h3 W3 => ?_)
  replace Fe := Fe.other W3 (Or.inr (slot_ne (Or.inl (hw _ (List.mem_of_getElem? (i := 114) rfl))) (Or.inl (hw _ (List.mem_of_getElem? (i := 144) rfl))) (by decide) (by decide : parseFieldDescriptor "[Ljava/lang/Object;" = some (.array (.object "java/lang/Object"))) (by decide : parseFieldDescriptor "I" = some .int)))
  replace Fs := Fs.same W3
  replace Fm := Fm.other W3 (Or.inr (slot_ne (Or.inl (hw _ (List.mem_of_getElem? (i := 111) rfl))) (Or.inl (hw _ (List.mem_of_getElem? (i := 144) rfl))) (by decide) (by decide : parseFieldDescriptor "I" = some .int) (by decide : parseFieldDescriptor "I" = some .int)))
  replace X := X.wr W3
  replace Ar := Ar.other W3 nr.symm
  replace Xr := Xr.wr W3
  exact Run.retv hK (by decide +kernel) (by decide) (by decide) ⟨rfl, ar, kr, ⟨X, Fe, Fs, ⟨_, Fm⟩, Ar, Xr, Ov, hx0, gar⟩, gr, (K1.wr W2 (Or.inr gr)).wr W3 (Or.inl (List.mem_singleton.mpr rfl))⟩
set_option maxRecDepth 65536 in
set_option maxHeartbeats 40000000 in
theorem c_adn {l : Launch} {Z : State} {a0 : Array Value} {z0 : Int32} {fm : Value} (G : Env1 Z a0 z0 fm) (x0 e ar : Addr) {k : ClassId} {vs : List Addr} (h : Heap) (Al : ALo Z h x0 ar k vs) (hv : vs.length < 10) (XI : Exa Z h e "java/lang/Integer") : Ctr Z consts_1 false l [] (⟨"java/util/ArrayList", "add", "(Ljava/lang/Object;[Ljava/lang/Object;I)V"⟩ : MethodName) jdk_38_method_24_code 4 none ({ frames := 0, cells := 0, slots := 0, locals := 0 } : Room) #[(.ref x0), (.ref e), (.ref ar), (.int (Int32.ofNat vs.length))] h [] (fun v h' => v = none ∧ ALo Z h' x0 ar k (vs ++ [e]) ∧ Keep h h' [x0, ar]) := by
  obtain ⟨hw, hEL, O2, P5, O4⟩ := id G
  refine Ctr.of_run (a0 := a0) (L0 := #[.val (.ref x0), .val (.ref e), .val (.ref ar), .val (.int (Int32.ofNat vs.length))]) (plainFor_of_name pn_al) hEL (by first | (simp [argsToLocals, Value.category, maxLocals]; done) | rfl) (fun K hK => ?_)
  obtain ⟨X, Fe, Fs, ⟨m1, Fm⟩, Ar, Xr, Ov, hx0, gar⟩ := Al
  have nr : x0 ≠ ar := X.neArv Ar (hw _ (List.mem_of_getElem? (i := 92) rfl))
  have lr : (Rv vs).length = vs.length := by simp [Rv]
  refine Run.pure hK (seg := [(0, .iload_n 3, 1), (1, .aload_n 2, 1)]) (by decide +kernel) (pc' := 2) (L' := #[.val (.ref x0), .val (.ref e), .val (.ref ar), .val (.int (Int32.ofNat vs.length))]) (S' := [(.ref ar), (.int (Int32.ofNat vs.length))]) rfl ?_
  refine Run.alen hK Ar (by decide +kernel) ?_
  refine Run.icmp hK (cd := .ne) (o := 8) (by decide +kernel) (by decide) (pc' := 11) rfl (fun _ => ?_) (fun q => by replace q := (h_ne _ _).2 q; have z := congrArg Int32.toInt q; rw [ofN (by omega), show (10 : Int32).toInt = 10 from rfl] at z; omega)
  refine Run.pure hK (seg := [(11, .aload_n 2, 1), (12, .iload_n 3, 1), (13, .aload_n 1, 1)]) (by decide +kernel) (pc' := 14) (L' := #[.val (.ref x0), .val (.ref e), .val (.ref ar), .val (.int (Int32.ofNat vs.length))]) (S' := [(.ref e), (.int (Int32.ofNat vs.length)), (.ref ar)]) rfl ?_
  have St : Sto Z h ar (.ref e) := by obtain ⟨c0, a1, a2, -⟩ := Ar; exact Sto.ofV a1 a2 Ov (Ins.of_exa XI (hw _ (List.mem_of_getElem? (i := 166) rfl)))
  refine Run.ast hK Ar ⟨ofN_nn (by omega), (ofN_lt2 (b := 10) (by omega) (by decide)).mpr hv⟩ St gar (sfA Ar (by decide)) (by decide +kernel) (fun h2 W2 B2 => ?_)
  replace Ar : Arv Z h2 ar k (.object "java/lang/Object") 10 (Rv (vs ++ [e])) .null := by
    rw [ofN_nat (by omega : vs.length ≤ 4000)] at B2
    rw [show Rv (vs ++ [e]) = Rv vs ++ [.ref e] by simp [Rv]]
    exact B2.pad (fun j => by have q := snoc_pad (vs := Rv vs) (n := 10) .null (.ref e) (by omega) j; rw [lr] at q; exact q)
  replace Fe := Fe.other W2 (Or.inl nr)
  replace Fs := Fs.other W2 (Or.inl nr)
  replace Fm := Fm.other W2 (Or.inl nr)
  replace X := X.wr W2
  replace Xr := Xr.wr W2
  refine Run.pure hK (seg := [(15, .aload_n 0, 1), (16, .iload_n 3, 1), (17, .iconst 1, 1), (18, .iadd, 1)]) (by decide +kernel) (pc' := 19) (L' := #[.val (.ref x0), .val (.ref e), .val (.ref ar), .val (.int (Int32.ofNat vs.length))]) (S' := [(.int ((Int32.ofNat vs.length) + (1 : Int32))), (.ref x0)]) rfl ?_
  rw [show Int32.ofNat vs.length + (1 : Int32) = Int32.ofNat (vs ++ [e]).length from by rw [List.length_append]; exact ofN_add (n := vs.length) (m := 1) (by omega)]
  refine Run.putf hK (index := 48) (host := "") (Or.inl (hw _ (List.mem_of_getElem? (i := 143) rfl))) Via.refl Fs X (Or.inl (hw _ (List.mem_of_getElem? (i := 144) rfl))) (hw _ (List.mem_of_getElem? (i := 92) rfl)) (ty := .int) (by decide) rfl rfl hx0 (sfE X (by decide) (by decide)) (by decide +kernel) (fun h3 W3 => ?_)
  replace Fe := Fe.other W3 (Or.inr (slot_ne (Or.inl (hw _ (List.mem_of_getElem? (i := 114) rfl))) (Or.inl (hw _ (List.mem_of_getElem? (i := 144) rfl))) (by decide) (by decide : parseFieldDescriptor "[Ljava/lang/Object;" = some (.array (.object "java/lang/Object"))) (by decide : parseFieldDescriptor "I" = some .int)))
  replace Fs := Fs.same W3
  replace Fm := Fm.other W3 (Or.inr (slot_ne (Or.inl (hw _ (List.mem_of_getElem? (i := 111) rfl))) (Or.inl (hw _ (List.mem_of_getElem? (i := 144) rfl))) (by decide) (by decide : parseFieldDescriptor "I" = some .int) (by decide : parseFieldDescriptor "I" = some .int)))
  replace X := X.wr W3
  replace Ar := Ar.other W3 nr.symm
  replace Xr := Xr.wr W3
  exact Run.retv hK (by decide +kernel) (by decide) (by decide) ⟨rfl, ⟨X, Fe, Fs, ⟨_, Fm⟩, Ar, Xr, Ov, hx0, gar⟩, ((Keep.refl _ [x0, ar]).wr W2 (Or.inl (by simp))).wr W3 (Or.inl (by simp))⟩
set_option maxRecDepth 65536 in
set_option maxHeartbeats 40000000 in
theorem c_add0 {l : Launch} {Z : State} {a0 : Array Value} {z0 : Int32} {fm : Value} (G : Env1 Z a0 z0 fm) (x0 e : Addr) {N1 E0 e0 EM mr : Addr} {k1 k2 : ClassId} (LX : LF Z N1 E0 e0 EM mr k1 k2) (h : Heap) (hx0 : Z.heap.size ≤ x0) (X : Exa Z h x0 "java/util/ArrayList") {m : Int32} (Fl : Fld Z h x0 "java/util/ArrayList" "elementData" "[Ljava/lang/Object;" (.ref N1) ∧ Fld Z h x0 "java/util/ArrayList" "size" "I" (.int 0) ∧ Fld Z h x0 "java/util/AbstractList" "modCount" "I" (.int m)) (XI : Exa Z h e "java/lang/Integer") : Ctr Z consts_1 false l [] (⟨"java/util/ArrayList", "add", "(Ljava/lang/Object;)Z"⟩ : MethodName) jdk_38_method_25_code 2 (some .boolean) ({ frames := 4, cells := 1, slots := 10, locals := 80 } : Room) #[(.ref x0), (.ref e)] h [] (fun v h' => v = some (.int 1) ∧ ∃ ar k, ALo Z h' x0 ar k [e] ∧ h.size ≤ ar ∧ Keep h h' [x0]) := by
  obtain ⟨hw, hEL, O2, P5, O4⟩ := id G
  refine Ctr.of_run (a0 := a0) (L0 := #[.val (.ref x0), .val (.ref e)]) (plainFor_of_name pn_al) hEL (by first | (simp [argsToLocals, Value.category, maxLocals]; done) | rfl) (fun K hK => ?_)
  obtain ⟨Fe, Fs, Fm⟩ := Fl
  refine Run.pure hK (seg := [(0, .aload_n 0, 1), (1, .dup, 1)]) (by decide +kernel) (pc' := 2) (L' := #[.val (.ref x0), .val (.ref e)]) (S' := [(.ref x0), (.ref x0)]) rfl ?_
  refine Run.getf hK (index := 63) (host := "") (Or.inl (hw _ (List.mem_of_getElem? (i := 141) rfl))) (Via.of (hw _ (List.mem_of_getElem? (i := 142) rfl))) Fm (by decide +kernel) ?_
  refine Run.pure hK (seg := [(5, .iconst 1, 1), (6, .iadd, 1)]) (by decide +kernel) (pc' := 7) (L' := #[.val (.ref x0), .val (.ref e)]) (S' := [(.int (m + (1 : Int32))), (.ref x0)]) rfl ?_
  refine Run.putf hK (index := 63) (host := "") (Or.inl (hw _ (List.mem_of_getElem? (i := 141) rfl))) (Via.of (hw _ (List.mem_of_getElem? (i := 142) rfl))) Fm X (Or.inl (hw _ (List.mem_of_getElem? (i := 111) rfl))) (hw _ (List.mem_of_getElem? (i := 92) rfl)) (ty := .int) (by decide) rfl rfl hx0 (sfE X (by decide) (by decide)) (by decide +kernel) (fun h1 W1 => ?_)
  replace Fe := Fe.other W1 (Or.inr (slot_ne (Or.inl (hw _ (List.mem_of_getElem? (i := 114) rfl))) (Or.inl (hw _ (List.mem_of_getElem? (i := 111) rfl))) (by decide) (by decide : parseFieldDescriptor "[Ljava/lang/Object;" = some (.array (.object "java/lang/Object"))) (by decide : parseFieldDescriptor "I" = some .int)))
  replace Fs := Fs.other W1 (Or.inr (slot_ne (Or.inl (hw _ (List.mem_of_getElem? (i := 144) rfl))) (Or.inl (hw _ (List.mem_of_getElem? (i := 111) rfl))) (by decide) (by decide : parseFieldDescriptor "I" = some .int) (by decide : parseFieldDescriptor "I" = some .int)))
  replace Fm := Fm.same W1
  replace X := X.wr W1
  replace XI := XI.wr W1
  refine Run.pure hK (seg := [(10, .aload_n 0, 1), (11, .aload_n 1, 1), (12, .aload_n 0, 1)]) (by decide +kernel) (pc' := 13) (L' := #[.val (.ref x0), .val (.ref e)]) (S' := [(.ref x0), (.ref e), (.ref x0)]) rfl ?_
  refine Run.getf hK (index := 9) (host := "") (Or.inl (hw _ (List.mem_of_getElem? (i := 113) rfl))) Via.refl Fe (by decide +kernel) ?_
  refine Run.pure hK (seg := [(16, .aload_n 0, 1)]) (by decide +kernel) (pc' := 17) (L' := #[.val (.ref x0), .val (.ref e)]) (S' := [(.ref x0), (.ref N1), (.ref e), (.ref x0)]) rfl ?_
  refine Run.getf hK (index := 48) (host := "") (Or.inl (hw _ (List.mem_of_getElem? (i := 143) rfl))) Via.refl Fs (by decide +kernel) ?_
  refine Run.privat hK (index := 131) (y := (⟨"java/util/ArrayList", "add", "(Ljava/lang/Object;[Ljava/lang/Object;I)V"⟩ : MethodName)) (Wt := 0) (kc := 1) (ks := 10) (hw _ (List.mem_of_getElem? (i := 145) rfl)) (hw _ (List.mem_of_getElem? (i := 146) rfl)) (hw _ (List.mem_of_getElem? (i := 92) rfl)) (hw _ (List.mem_of_getElem? (i := 147) rfl)) (hw _ (List.mem_of_getElem? (i := 149) rfl)) (by decide) (a := x0) X (W' := []) (fun _ q => nomatch q) (Ctr.cal (c_ad0 G x0 e LX h1 hx0 X ⟨Fe, Fs, Fm⟩ XI) (hw _ (List.mem_of_getElem? (i := 149) rfl)) (hw _ (List.mem_of_getElem? (i := 93) rfl)) (by decide) (by decide)) rfl (argsL := [(.ref e), (.ref N1), (.int (0 : Int32))]) (rest := []) (lenOf pd_ad3 rfl) rfl (Nat.le_of_ble_eq_true rfl) (by decide +kernel) (by decide) (by decide) (fun v2 h2 q2 n2 => ?_)
  obtain ⟨rfl, ar, k, Al, gr, K2⟩ := q2
  refine Run.pure hK (seg := [(23, .iconst 1, 1)]) (by decide +kernel) (pc' := 24) (L' := #[.val (.ref x0), .val (.ref e)]) (S' := [(.int (1 : Int32))]) rfl ?_
  exact Run.retw hK (i := .ireturn) rfl (Or.inl ⟨rfl, Or.inr (Or.inl rfl), _, rfl⟩) (by decide +kernel) (by decide) (by decide) ⟨rfl, ar, k, Al, (by rw [← W1.size]; exact gr), (Keep.of_wr W1).trans K2 (fun x hx => Or.inl hx)⟩
set_option maxRecDepth 65536 in
set_option maxHeartbeats 40000000 in
theorem c_addn {l : Launch} {Z : State} {a0 : Array Value} {z0 : Int32} {fm : Value} (G : Env1 Z a0 z0 fm) (x0 e ar : Addr) {k : ClassId} {vs : List Addr} (h : Heap) (Al : ALo Z h x0 ar k vs) (hv : vs.length < 10) (XI : Exa Z h e "java/lang/Integer") : Ctr Z consts_1 false l [] (⟨"java/util/ArrayList", "add", "(Ljava/lang/Object;)Z"⟩ : MethodName) jdk_38_method_25_code 2 (some .boolean) ({ frames := 1, cells := 0, slots := 0, locals := 20 } : Room) #[(.ref x0), (.ref e)] h [] (fun v h' => v = some (.int 1) ∧ ALo Z h' x0 ar k (vs ++ [e]) ∧ Keep h h' [x0, ar]) := by
  obtain ⟨hw, hEL, O2, P5, O4⟩ := id G
  refine Ctr.of_run (a0 := a0) (L0 := #[.val (.ref x0), .val (.ref e)]) (plainFor_of_name pn_al) hEL (by first | (simp [argsToLocals, Value.category, maxLocals]; done) | rfl) (fun K hK => ?_)
  obtain ⟨X, Fe, Fs, ⟨m1, Fm⟩, Ar, Xr, Ov, hx0, gar⟩ := Al
  have nr : x0 ≠ ar := X.neArv Ar (hw _ (List.mem_of_getElem? (i := 92) rfl))
  refine Run.pure hK (seg := [(0, .aload_n 0, 1), (1, .dup, 1)]) (by decide +kernel) (pc' := 2) (L' := #[.val (.ref x0), .val (.ref e)]) (S' := [(.ref x0), (.ref x0)]) rfl ?_
  refine Run.getf hK (index := 63) (host := "") (Or.inl (hw _ (List.mem_of_getElem? (i := 141) rfl))) (Via.of (hw _ (List.mem_of_getElem? (i := 142) rfl))) Fm (by decide +kernel) ?_
  refine Run.pure hK (seg := [(5, .iconst 1, 1), (6, .iadd, 1)]) (by decide +kernel) (pc' := 7) (L' := #[.val (.ref x0), .val (.ref e)]) (S' := [(.int (m1 + (1 : Int32))), (.ref x0)]) rfl ?_
  refine Run.putf hK (index := 63) (host := "") (Or.inl (hw _ (List.mem_of_getElem? (i := 141) rfl))) (Via.of (hw _ (List.mem_of_getElem? (i := 142) rfl))) Fm X (Or.inl (hw _ (List.mem_of_getElem? (i := 111) rfl))) (hw _ (List.mem_of_getElem? (i := 92) rfl)) (ty := .int) (by decide) rfl rfl hx0 (sfE X (by decide) (by decide)) (by decide +kernel) (fun h1 W1 => ?_)
  replace Fe := Fe.other W1 (Or.inr (slot_ne (Or.inl (hw _ (List.mem_of_getElem? (i := 114) rfl))) (Or.inl (hw _ (List.mem_of_getElem? (i := 111) rfl))) (by decide) (by decide : parseFieldDescriptor "[Ljava/lang/Object;" = some (.array (.object "java/lang/Object"))) (by decide : parseFieldDescriptor "I" = some .int)))
  replace Fs := Fs.other W1 (Or.inr (slot_ne (Or.inl (hw _ (List.mem_of_getElem? (i := 144) rfl))) (Or.inl (hw _ (List.mem_of_getElem? (i := 111) rfl))) (by decide) (by decide : parseFieldDescriptor "I" = some .int) (by decide : parseFieldDescriptor "I" = some .int)))
  replace Fm := Fm.same W1
  replace X := X.wr W1
  replace XI := XI.wr W1
  replace Ar := Ar.other W1 nr.symm
  replace Xr := Xr.wr W1
  refine Run.pure hK (seg := [(10, .aload_n 0, 1), (11, .aload_n 1, 1), (12, .aload_n 0, 1)]) (by decide +kernel) (pc' := 13) (L' := #[.val (.ref x0), .val (.ref e)]) (S' := [(.ref x0), (.ref e), (.ref x0)]) rfl ?_
  refine Run.getf hK (index := 9) (host := "") (Or.inl (hw _ (List.mem_of_getElem? (i := 113) rfl))) Via.refl Fe (by decide +kernel) ?_
  refine Run.pure hK (seg := [(16, .aload_n 0, 1)]) (by decide +kernel) (pc' := 17) (L' := #[.val (.ref x0), .val (.ref e)]) (S' := [(.ref x0), (.ref ar), (.ref e), (.ref x0)]) rfl ?_
  refine Run.getf hK (index := 48) (host := "") (Or.inl (hw _ (List.mem_of_getElem? (i := 143) rfl))) Via.refl Fs (by decide +kernel) ?_
  refine Run.privat hK (index := 131) (y := (⟨"java/util/ArrayList", "add", "(Ljava/lang/Object;[Ljava/lang/Object;I)V"⟩ : MethodName)) (Wt := 0) (kc := 0) (ks := 0) (hw _ (List.mem_of_getElem? (i := 145) rfl)) (hw _ (List.mem_of_getElem? (i := 146) rfl)) (hw _ (List.mem_of_getElem? (i := 92) rfl)) (hw _ (List.mem_of_getElem? (i := 147) rfl)) (hw _ (List.mem_of_getElem? (i := 149) rfl)) (by decide) (a := x0) X (W' := []) (fun _ q => nomatch q) (Ctr.cal (c_adn G x0 e ar h1 ⟨X, Fe, Fs, ⟨_, Fm⟩, Ar, Xr, Ov, hx0, gar⟩ hv XI) (hw _ (List.mem_of_getElem? (i := 149) rfl)) (hw _ (List.mem_of_getElem? (i := 93) rfl)) (by decide) (by decide)) rfl (argsL := [(.ref e), (.ref ar), (.int (Int32.ofNat vs.length))]) (rest := []) (lenOf pd_ad3 rfl) rfl (Nat.le_of_ble_eq_true rfl) (by decide +kernel) (by decide) (by decide) (fun v2 h2 q2 n2 => ?_)
  obtain ⟨rfl, Al, K2⟩ := q2
  refine Run.pure hK (seg := [(23, .iconst 1, 1)]) (by decide +kernel) (pc' := 24) (L' := #[.val (.ref x0), .val (.ref e)]) (S' := [(.int (1 : Int32))]) rfl ?_
  exact Run.retw hK (i := .ireturn) rfl (Or.inl ⟨rfl, Or.inr (Or.inl rfl), _, rfl⟩) (by decide +kernel) (by decide) (by decide) ⟨rfl, Al, ((Keep.refl _ [x0, ar]).wr W1 (Or.inl (by simp))).trans K2 (fun x hx => Or.inl hx)⟩
set_option maxRecDepth 65536 in
set_option maxHeartbeats 40000000 in
theorem c_ais {l : Launch} {Z : State} {a0 : Array Value} {z0 : Int32} {fm : Value} (G : Env1 Z a0 z0 fm) (x0 ar : Addr) {k : ClassId} {vs : List Addr} (h : Heap) (Al : ALo Z h x0 ar k vs) (hv : 0 < vs.length) (hv2 : vs.length ≤ 10) : Ctr Z consts_1 false l [] (⟨"java/util/ArrayList", "isEmpty", "()Z"⟩ : MethodName) jdk_38_method_9_code 1 (some .boolean) ({ frames := 0, cells := 0, slots := 0, locals := 0 } : Room) #[(.ref x0)] h [] (fun v h' => h' = h ∧ v = some (.int 0)) := by
  obtain ⟨hw, hEL, O2, P5, O4⟩ := id G
  refine Ctr.of_run (a0 := a0) (L0 := #[.val (.ref x0)]) (plainFor_of_name pn_al) hEL (by first | (simp [argsToLocals, Value.category, maxLocals]; done) | rfl) (fun K hK => ?_)
  refine Run.pure hK (seg := [(0, .aload_n 0, 1)]) (by decide +kernel) (pc' := 1) (L' := #[.val (.ref x0)]) (S' := [(.ref x0)]) rfl ?_
  refine Run.getf hK (index := 48) (host := "") (Or.inl (hw _ (List.mem_of_getElem? (i := 143) rfl))) Via.refl Al.2.2.1 (by decide +kernel) ?_
  refine Run.ifz hK (cd := .ne) (o := 7) (by decide +kernel) (by decide) (pc' := 11) rfl (fun _ => ?_) (fun q => by replace q := (h_ne _ _).2 q; have z := congrArg Int32.toInt q; rw [ofN (by omega), tI0] at z; omega)
  refine Run.pure hK (seg := [(11, .iconst 0, 1)]) (by decide +kernel) (pc' := 12) (L' := #[.val (.ref x0)]) (S' := [(.int (0 : Int32))]) rfl ?_
  exact Run.retw hK (i := .ireturn) rfl (Or.inl ⟨rfl, Or.inr (Or.inl rfl), _, rfl⟩) (by decide +kernel) (by decide) (by decide) ⟨rfl, rfl⟩
def Pl (Z : State) (h : Heap) (p EM : Addr) (n : Int32) : Prop := (Exa Z h p "java/util/ImmutableCollections$List12" ∧ ∃ e, Fld Z h p "java/util/ImmutableCollections$List12" "e1" "Ljava/lang/Object;" (.ref e) ∧ n = (if e = EM then 1 else 2)) ∨ (Exa Z h p "java/util/ImmutableCollections$ListN" ∧ ∃ b k vs, Fld Z h p "java/util/ImmutableCollections$ListN" "elements" "[Ljava/lang/Object;" (.ref b) ∧ Arv Z h b k (.object "java/lang/Object") n vs .null)
theorem Pl.ext {Z : State} {h h' : Heap} {p EM : Addr} {n : Int32} (P : Pl Z h p EM n) (E : Ext h h') : Pl Z h' p EM n := by
  rcases P with ⟨f1, e, f2, f3⟩ | ⟨f1, b, k, vs, f2, f3⟩
  · exact Or.inl ⟨f1.ext E, e, f2.ext E, f3⟩
  · exact Or.inr ⟨f1.ext E, b, k, vs, f2.ext E, f3.ext E⟩
set_option maxRecDepth 65536 in
set_option maxHeartbeats 40000000 in
theorem c_co31 {l : Launch} {Z : State} {a0 : Array Value} {z0 : Int32} {fm : Value} (G : Env1 Z a0 z0 fm) (ar : Addr) {k : ClassId} (e1 : Addr) {N1 E0 e0 EM mr : Addr} {k1 k2 : ClassId} (LX : LF Z N1 E0 e0 EM mr k1 k2) (h : Heap) (Aa : Arv Z h ar k (.object "java/lang/Object") 10 (Rv [e1]) .null) (XI1 : Exa Z h e1 "java/lang/Integer") : Ctr Z consts_1 false l [] (⟨"java/util/Arrays", "copyOf", "([Ljava/lang/Object;ILjava/lang/Class;)[Ljava/lang/Object;"⟩ : MethodName) jdk_65_method_120_code 4 (some (.array (.object "java/lang/Object"))) ({ frames := 1, cells := 1, slots := 1, locals := 24 } : Room) #[(.ref ar), (.int (1 : Int32)), (.ref mr)] h [] (fun v h' => ∃ b kb, v = some (.ref b) ∧ Arv Z h' b kb (.object "java/lang/Object") (1 : Int32) (Rv [e1]) .null ∧ Exa Z h' b "[Ljava/lang/Object;" ∧ Ext h h') := by
  obtain ⟨hw, hEL, O2, P5, O4⟩ := id G
  refine Ctr.of_run (a0 := a0) (L0 := #[.val (.ref ar), .val (.int (1 : Int32)), .val (.ref mr), .unset]) (plainFor_of_name pn_ars) hEL (by first | (simp [argsToLocals, Value.category, maxLocals]; done) | rfl) (fun K hK => ?_)
  obtain ⟨SD, AD, SE, XE, FE, AE, SM, XM, MI⟩ := id LX
  refine Run.old (fun hO => ?_)
  refine Run.pure hK (seg := [(0, .aload_n 2, 1)]) (by decide +kernel) (pc' := 1) (L' := #[.val (.ref ar), .val (.int (1 : Int32)), .val (.ref mr), .unset]) (S' := [(.ref mr)]) rfl ?_
  refine Run.ldck hK (index := 110) (hw _ (List.mem_of_getElem? (i := 222) rfl)) MI (by decide +kernel) ?_
  refine Run.acmp hK (cd := .ne) (o := 10) (same := true) rfl rfl (by simp) (by decide +kernel) (by decide) (pc' := 6) rfl ?_
  refine Run.pure hK (seg := [(6, .iload_n 1, 1)]) (by decide +kernel) (pc' := 7) (L' := #[.val (.ref ar), .val (.int (1 : Int32)), .val (.ref mr), .unset]) (S' := [(.int (1 : Int32))]) rfl ?_
  refine Run.newr hK (index := 2) (Oc := "java/lang/Object") (hw _ (List.mem_of_getElem? (i := 223) rfl)) (hw _ (List.mem_of_getElem? (i := 165) rfl)) (by decide +kernel) (by decide) (cap := 1) (by decide) (by decide) (by decide) (by decide) (ad := "[Ljava/lang/Object;") (by decide +kernel) (fun hb kb Eb Ab Xb Ob => ?_)
  obtain ⟨ab, zb⟩ : ∃ z, z = h.size := ⟨_, rfl⟩
  rw [← zb]
  rw [← zb] at Ab Xb
  refine Run.pure hK (seg := [(10, .goto 14, 3), (24, .astore_n 3, 1), (25, .aload_n 0, 1), (26, .iconst 0, 1), (27, .aload_n 3, 1), (28, .iconst 0, 1), (29, .aload_n 0, 1)]) (by decide +kernel) (pc' := 30) (L' := #[.val (.ref ar), .val (.int (1 : Int32)), .val (.ref mr), .val (.ref ab)]) (S' := [(.ref ar), (.int (0 : Int32)), (.ref ab), (.int (0 : Int32)), (.ref ar)]) rfl ?_
  refine Run.alen hK (Aa.ext Eb) (by decide +kernel) ?_
  refine Run.pure hK (seg := [(31, .iload_n 1, 1)]) (by decide +kernel) (pc' := 32) (L' := #[.val (.ref ar), .val (.int (1 : Int32)), .val (.ref mr), .val (.ref ab)]) (S' := [(.int (1 : Int32)), (.int (10 : Int32)), (.int (0 : Int32)), (.ref ab), (.int (0 : Int32)), (.ref ar)]) rfl ?_
  refine Run.static hK (index := 304) (y := (⟨"java/lang/Math", "min", "(II)I"⟩ : MethodName)) (Wt := 4) (kc := 0) (ks := 0) (hw _ (List.mem_of_getElem? (i := 224) rfl)) (hw _ (List.mem_of_getElem? (i := 225) rfl)) (hw _ (List.mem_of_getElem? (i := 162) rfl)) (hw _ (List.mem_of_getElem? (i := 226) rfl)) (by decide) (W' := []) (fun _ q => nomatch q) (Ctr.cal (c_min G (10 : Int32) (1 : Int32) hb) (hw _ (List.mem_of_getElem? (i := 226) rfl)) (hw _ (List.mem_of_getElem? (i := 162) rfl)) (by decide) (by decide)) rfl (argsL := [(.int (10 : Int32)), (.int (1 : Int32))]) (rest := [(.int (0 : Int32)), (.ref ab), (.int (0 : Int32)), (.ref ar)]) (lenOf pd_ii rfl) rfl (Nat.le_of_ble_eq_true rfl) (by decide +kernel) (by decide) (by decide) (fun vm hm qm nm => ?_)
  obtain ⟨rfl, rfl⟩ := qm
  rw [if_pos (by decide : (1 : Int32) < 10)]
  have P : Arv Z hm ab kb (.object "java/lang/Object") (1 : Int32) (List.replicate 1 .null) .null := Ab.pad (fun j => by simp only [List.getD_eq_getElem?_getD, List.getElem?_replicate]; split <;> rfl)
  have S1 : Sto Z hm ab (.ref e1) := by obtain ⟨c0, a1, a2, -⟩ := Ab; exact Sto.ofV a1 a2 Ob (Ins.of_exa (XI1.ext Eb) (hw _ (List.mem_of_getElem? (i := 166) rfl)))
  refine Run.cpyR hK (index := 150) (hw _ (List.mem_of_getElem? (i := 227) rfl)) (hw _ (List.mem_of_getElem? (i := 230) rfl)) (hw _ (List.mem_of_getElem? (i := 228) rfl)) (hw _ (List.mem_of_getElem? (i := 229) rfl)) (Aa.ext Eb) P (us := (Rv [e1])) ⟨S1, trivial⟩ (by decide) (by decide) (by decide) (by decide) (by decide) (by rfl) (by decide) (by rw [zb]; exact hO.1) (sfA P (by decide)) rfl (by decide +kernel) (by decide) (Wt := 0) (Nat.le_of_ble_eq_true rfl) (by decide) (fun hc Kc Bc => ?_)
  have Ax : Arv Z hc ab kb (.object "java/lang/Object") (1 : Int32) (Rv [e1]) .null := Bc.pad (fun j => by rfl)
  have Tx := ext_keep Eb Kc (fun x hx => by cases List.mem_singleton.mp hx; rw [zb]; exact Nat.le_refl _)
  refine Run.pure hK (seg := [(38, .aload_n 3, 1)]) (by decide +kernel) (pc' := 39) (L' := #[.val (.ref ar), .val (.int (1 : Int32)), .val (.ref mr), .val (.ref ab)]) (S' := [(.ref ab)]) rfl ?_
  exact Run.retw hK (i := .areturn) rfl (Or.inr (Or.inr (Or.inr (Or.inr ⟨rfl, rfl, rfl⟩)))) (by decide +kernel) (by decide) (by decide) ⟨ab, kb, rfl, Ax, Xb.keep Kc, Tx⟩
set_option maxRecDepth 65536 in
set_option maxHeartbeats 40000000 in
theorem c_co21 {l : Launch} {Z : State} {a0 : Array Value} {z0 : Int32} {fm : Value} (G : Env1 Z a0 z0 fm) (ar : Addr) {k : ClassId} (e1 : Addr) {N1 E0 e0 EM mr : Addr} {k1 k2 : ClassId} (LX : LF Z N1 E0 e0 EM mr k1 k2) (h : Heap) (Aa : Arv Z h ar k (.object "java/lang/Object") 10 (Rv [e1]) .null) (XI1 : Exa Z h e1 "java/lang/Integer") (Xa : Exa Z h ar "[Ljava/lang/Object;") : Ctr Z consts_1 false l [] (⟨"java/util/Arrays", "copyOf", "([Ljava/lang/Object;I)[Ljava/lang/Object;"⟩ : MethodName) jdk_65_method_119_code 2 (some (.array (.object "java/lang/Object"))) ({ frames := 2, cells := 1, slots := 1, locals := 45 } : Room) #[(.ref ar), (.int (1 : Int32))] h [] (fun v h' => ∃ b kb, v = some (.ref b) ∧ Arv Z h' b kb (.object "java/lang/Object") (1 : Int32) (Rv [e1]) .null ∧ Exa Z h' b "[Ljava/lang/Object;" ∧ Ext h h') := by
  obtain ⟨hw, hEL, O2, P5, O4⟩ := id G
  refine Ctr.of_run (a0 := a0) (L0 := #[.val (.ref ar), .val (.int (1 : Int32))]) (plainFor_of_name pn_ars) hEL (by first | (simp [argsToLocals, Value.category, maxLocals]; done) | rfl) (fun K hK => ?_)
  obtain ⟨SD, AD, SE, XE, FE, AE, SM, XM, MI⟩ := id LX
  refine Run.pure hK (seg := [(0, .aload_n 0, 1), (1, .iload_n 1, 1), (2, .aload_n 0, 1)]) (by decide +kernel) (pc' := 3) (L' := #[.val (.ref ar), .val (.int (1 : Int32))]) (S' := [(.ref ar), (.int (1 : Int32)), (.ref ar)]) rfl ?_
  refine Run.gcl hK (index := 86) (hw _ (List.mem_of_getElem? (i := 213) rfl)) (hw _ (List.mem_of_getElem? (i := 214) rfl)) (hw _ (List.mem_of_getElem? (i := 194) rfl)) (hw _ (List.mem_of_getElem? (i := 216) rfl)) (hw _ (List.mem_of_getElem? (i := 215) rfl)) (hw _ (List.mem_of_getElem? (i := 217) rfl)) Xa MI rfl (by decide +kernel) (by decide) (Nat.le_of_ble_eq_true rfl) ?_
  refine Run.static hK (index := 300) (y := (⟨"java/util/Arrays", "copyOf", "([Ljava/lang/Object;ILjava/lang/Class;)[Ljava/lang/Object;"⟩ : MethodName)) (Wt := 0) (kc := 1) (ks := 1) (hw _ (List.mem_of_getElem? (i := 219) rfl)) (hw _ (List.mem_of_getElem? (i := 220) rfl)) (hw _ (List.mem_of_getElem? (i := 211) rfl)) (hw _ (List.mem_of_getElem? (i := 221) rfl)) (by decide) (W' := []) (fun _ q => nomatch q) (Ctr.cal (c_co31 G ar e1 LX h Aa XI1) (hw _ (List.mem_of_getElem? (i := 221) rfl)) (hw _ (List.mem_of_getElem? (i := 211) rfl)) (by decide) (by decide)) rfl (argsL := [(.ref ar), (.int (1 : Int32)), (.ref mr)]) (rest := []) (lenOf pd_co3 rfl) rfl (Nat.le_of_ble_eq_true rfl) (by decide +kernel) (by decide) (by decide) (fun v1 h1 q1 n1 => ?_)
  obtain ⟨b1, kb, rfl, q⟩ := q1
  exact Run.retw hK (i := .areturn) rfl (Or.inr (Or.inr (Or.inr (Or.inr ⟨rfl, rfl, rfl⟩)))) (by decide +kernel) (by decide) (by decide) ⟨b1, kb, rfl, q⟩
set_option maxRecDepth 65536 in
set_option maxHeartbeats 40000000 in
theorem c_ta1 {l : Launch} {Z : State} {a0 : Array Value} {z0 : Int32} {fm : Value} (G : Env1 Z a0 z0 fm) (x0 ar : Addr) {k : ClassId} (e1 : Addr) {N1 E0 e0 EM mr : Addr} {k1 k2 : ClassId} (LX : LF Z N1 E0 e0 EM mr k1 k2) (h : Heap) (Al : ALo Z h x0 ar k [e1]) (XI1 : Exa Z h e1 "java/lang/Integer") : Ctr Z consts_1 false l [] (⟨"java/util/ArrayList", "toArray", "()[Ljava/lang/Object;"⟩ : MethodName) jdk_38_method_16_code 1 (some (.array (.object "java/lang/Object"))) ({ frames := 3, cells := 1, slots := 1, locals := 60 } : Room) #[(.ref x0)] h [] (fun v h' => ∃ b kb, v = some (.ref b) ∧ Arv Z h' b kb (.object "java/lang/Object") (1 : Int32) (Rv [e1]) .null ∧ Exa Z h' b "[Ljava/lang/Object;" ∧ Ext h h') := by
  obtain ⟨hw, hEL, O2, P5, O4⟩ := id G
  refine Ctr.of_run (a0 := a0) (L0 := #[.val (.ref x0)]) (plainFor_of_name pn_al) hEL (by first | (simp [argsToLocals, Value.category, maxLocals]; done) | rfl) (fun K hK => ?_)
  obtain ⟨X, Fe, Fs, ⟨m1, Fm⟩, Aa, Xa, Ov, hx0, gar⟩ := Al
  replace Fs : Fld Z h x0 "java/util/ArrayList" "size" "I" (.int (1 : Int32)) := Fs
  refine Run.pure hK (seg := [(0, .aload_n 0, 1)]) (by decide +kernel) (pc' := 1) (L' := #[.val (.ref x0)]) (S' := [(.ref x0)]) rfl ?_
  refine Run.getf hK (index := 9) (host := "") (Or.inl (hw _ (List.mem_of_getElem? (i := 113) rfl))) Via.refl Fe (by decide +kernel) ?_
  refine Run.pure hK (seg := [(4, .aload_n 0, 1)]) (by decide +kernel) (pc' := 5) (L' := #[.val (.ref x0)]) (S' := [(.ref x0), (.ref ar)]) rfl ?_
  refine Run.getf hK (index := 48) (host := "") (Or.inl (hw _ (List.mem_of_getElem? (i := 143) rfl))) Via.refl Fs (by decide +kernel) ?_
  refine Run.static hK (index := 66) (y := (⟨"java/util/Arrays", "copyOf", "([Ljava/lang/Object;I)[Ljava/lang/Object;"⟩ : MethodName)) (Wt := 0) (kc := 1) (ks := 1) (hw _ (List.mem_of_getElem? (i := 209) rfl)) (hw _ (List.mem_of_getElem? (i := 210) rfl)) (hw _ (List.mem_of_getElem? (i := 211) rfl)) (hw _ (List.mem_of_getElem? (i := 212) rfl)) (by decide) (W' := []) (fun _ q => nomatch q) (Ctr.cal (c_co21 G ar e1 LX h Aa XI1 Xa) (hw _ (List.mem_of_getElem? (i := 212) rfl)) (hw _ (List.mem_of_getElem? (i := 211) rfl)) (by decide) (by decide)) rfl (argsL := [(.ref ar), (.int (1 : Int32))]) (rest := []) (lenOf pd_co2 rfl) rfl (Nat.le_of_ble_eq_true rfl) (by decide +kernel) (by decide) (by decide) (fun v1 h1 q1 n1 => ?_)
  obtain ⟨b1, kb, rfl, q⟩ := q1
  exact Run.retw hK (i := .areturn) rfl (Or.inr (Or.inr (Or.inr (Or.inr ⟨rfl, rfl, rfl⟩)))) (by decide +kernel) (by decide) (by decide) ⟨b1, kb, rfl, q⟩
set_option maxRecDepth 65536 in
set_option maxHeartbeats 40000000 in
theorem c_co32 {l : Launch} {Z : State} {a0 : Array Value} {z0 : Int32} {fm : Value} (G : Env1 Z a0 z0 fm) (ar : Addr) {k : ClassId} (e1 e2 : Addr) {N1 E0 e0 EM mr : Addr} {k1 k2 : ClassId} (LX : LF Z N1 E0 e0 EM mr k1 k2) (h : Heap) (Aa : Arv Z h ar k (.object "java/lang/Object") 10 (Rv [e1, e2]) .null) (XI1 : Exa Z h e1 "java/lang/Integer") (XI2 : Exa Z h e2 "java/lang/Integer") : Ctr Z consts_1 false l [] (⟨"java/util/Arrays", "copyOf", "([Ljava/lang/Object;ILjava/lang/Class;)[Ljava/lang/Object;"⟩ : MethodName) jdk_65_method_120_code 4 (some (.array (.object "java/lang/Object"))) ({ frames := 1, cells := 1, slots := 2, locals := 24 } : Room) #[(.ref ar), (.int (2 : Int32)), (.ref mr)] h [] (fun v h' => ∃ b kb, v = some (.ref b) ∧ Arv Z h' b kb (.object "java/lang/Object") (2 : Int32) (Rv [e1, e2]) .null ∧ Exa Z h' b "[Ljava/lang/Object;" ∧ Ext h h') := by
  obtain ⟨hw, hEL, O2, P5, O4⟩ := id G
  refine Ctr.of_run (a0 := a0) (L0 := #[.val (.ref ar), .val (.int (2 : Int32)), .val (.ref mr), .unset]) (plainFor_of_name pn_ars) hEL (by first | (simp [argsToLocals, Value.category, maxLocals]; done) | rfl) (fun K hK => ?_)
  obtain ⟨SD, AD, SE, XE, FE, AE, SM, XM, MI⟩ := id LX
  refine Run.old (fun hO => ?_)
  refine Run.pure hK (seg := [(0, .aload_n 2, 1)]) (by decide +kernel) (pc' := 1) (L' := #[.val (.ref ar), .val (.int (2 : Int32)), .val (.ref mr), .unset]) (S' := [(.ref mr)]) rfl ?_
  refine Run.ldck hK (index := 110) (hw _ (List.mem_of_getElem? (i := 222) rfl)) MI (by decide +kernel) ?_
  refine Run.acmp hK (cd := .ne) (o := 10) (same := true) rfl rfl (by simp) (by decide +kernel) (by decide) (pc' := 6) rfl ?_
  refine Run.pure hK (seg := [(6, .iload_n 1, 1)]) (by decide +kernel) (pc' := 7) (L' := #[.val (.ref ar), .val (.int (2 : Int32)), .val (.ref mr), .unset]) (S' := [(.int (2 : Int32))]) rfl ?_
  refine Run.newr hK (index := 2) (Oc := "java/lang/Object") (hw _ (List.mem_of_getElem? (i := 223) rfl)) (hw _ (List.mem_of_getElem? (i := 165) rfl)) (by decide +kernel) (by decide) (cap := 2) (by decide) (by decide) (by decide) (by decide) (ad := "[Ljava/lang/Object;") (by decide +kernel) (fun hb kb Eb Ab Xb Ob => ?_)
  obtain ⟨ab, zb⟩ : ∃ z, z = h.size := ⟨_, rfl⟩
  rw [← zb]
  rw [← zb] at Ab Xb
  refine Run.pure hK (seg := [(10, .goto 14, 3), (24, .astore_n 3, 1), (25, .aload_n 0, 1), (26, .iconst 0, 1), (27, .aload_n 3, 1), (28, .iconst 0, 1), (29, .aload_n 0, 1)]) (by decide +kernel) (pc' := 30) (L' := #[.val (.ref ar), .val (.int (2 : Int32)), .val (.ref mr), .val (.ref ab)]) (S' := [(.ref ar), (.int (0 : Int32)), (.ref ab), (.int (0 : Int32)), (.ref ar)]) rfl ?_
  refine Run.alen hK (Aa.ext Eb) (by decide +kernel) ?_
  refine Run.pure hK (seg := [(31, .iload_n 1, 1)]) (by decide +kernel) (pc' := 32) (L' := #[.val (.ref ar), .val (.int (2 : Int32)), .val (.ref mr), .val (.ref ab)]) (S' := [(.int (2 : Int32)), (.int (10 : Int32)), (.int (0 : Int32)), (.ref ab), (.int (0 : Int32)), (.ref ar)]) rfl ?_
  refine Run.static hK (index := 304) (y := (⟨"java/lang/Math", "min", "(II)I"⟩ : MethodName)) (Wt := 4) (kc := 0) (ks := 0) (hw _ (List.mem_of_getElem? (i := 224) rfl)) (hw _ (List.mem_of_getElem? (i := 225) rfl)) (hw _ (List.mem_of_getElem? (i := 162) rfl)) (hw _ (List.mem_of_getElem? (i := 226) rfl)) (by decide) (W' := []) (fun _ q => nomatch q) (Ctr.cal (c_min G (10 : Int32) (2 : Int32) hb) (hw _ (List.mem_of_getElem? (i := 226) rfl)) (hw _ (List.mem_of_getElem? (i := 162) rfl)) (by decide) (by decide)) rfl (argsL := [(.int (10 : Int32)), (.int (2 : Int32))]) (rest := [(.int (0 : Int32)), (.ref ab), (.int (0 : Int32)), (.ref ar)]) (lenOf pd_ii rfl) rfl (Nat.le_of_ble_eq_true rfl) (by decide +kernel) (by decide) (by decide) (fun vm hm qm nm => ?_)
  obtain ⟨rfl, rfl⟩ := qm
  rw [if_pos (by decide : (2 : Int32) < 10)]
  have P : Arv Z hm ab kb (.object "java/lang/Object") (2 : Int32) (List.replicate 2 .null) .null := Ab.pad (fun j => by simp only [List.getD_eq_getElem?_getD, List.getElem?_replicate]; split <;> rfl)
  have S1 : Sto Z hm ab (.ref e1) := by obtain ⟨c0, a1, a2, -⟩ := Ab; exact Sto.ofV a1 a2 Ob (Ins.of_exa (XI1.ext Eb) (hw _ (List.mem_of_getElem? (i := 166) rfl)))
  have S2 : Sto Z hm ab (.ref e2) := by obtain ⟨c0, a1, a2, -⟩ := Ab; exact Sto.ofV a1 a2 Ob (Ins.of_exa (XI2.ext Eb) (hw _ (List.mem_of_getElem? (i := 166) rfl)))
  refine Run.cpyR hK (index := 150) (hw _ (List.mem_of_getElem? (i := 227) rfl)) (hw _ (List.mem_of_getElem? (i := 230) rfl)) (hw _ (List.mem_of_getElem? (i := 228) rfl)) (hw _ (List.mem_of_getElem? (i := 229) rfl)) (Aa.ext Eb) P (us := (Rv [e1, e2])) ⟨S1, S2, trivial⟩ (by decide) (by decide) (by decide) (by decide) (by decide) (by rfl) (by decide) (by rw [zb]; exact hO.1) (sfA P (by decide)) rfl (by decide +kernel) (by decide) (Wt := 0) (Nat.le_of_ble_eq_true rfl) (by decide) (fun hc Kc Bc => ?_)
  have Ax : Arv Z hc ab kb (.object "java/lang/Object") (2 : Int32) (Rv [e1, e2]) .null := Bc.pad (fun j => by rfl)
  have Tx := ext_keep Eb Kc (fun x hx => by cases List.mem_singleton.mp hx; rw [zb]; exact Nat.le_refl _)
  refine Run.pure hK (seg := [(38, .aload_n 3, 1)]) (by decide +kernel) (pc' := 39) (L' := #[.val (.ref ar), .val (.int (2 : Int32)), .val (.ref mr), .val (.ref ab)]) (S' := [(.ref ab)]) rfl ?_
  exact Run.retw hK (i := .areturn) rfl (Or.inr (Or.inr (Or.inr (Or.inr ⟨rfl, rfl, rfl⟩)))) (by decide +kernel) (by decide) (by decide) ⟨ab, kb, rfl, Ax, Xb.keep Kc, Tx⟩
set_option maxRecDepth 65536 in
set_option maxHeartbeats 40000000 in
theorem c_co22 {l : Launch} {Z : State} {a0 : Array Value} {z0 : Int32} {fm : Value} (G : Env1 Z a0 z0 fm) (ar : Addr) {k : ClassId} (e1 e2 : Addr) {N1 E0 e0 EM mr : Addr} {k1 k2 : ClassId} (LX : LF Z N1 E0 e0 EM mr k1 k2) (h : Heap) (Aa : Arv Z h ar k (.object "java/lang/Object") 10 (Rv [e1, e2]) .null) (XI1 : Exa Z h e1 "java/lang/Integer") (XI2 : Exa Z h e2 "java/lang/Integer") (Xa : Exa Z h ar "[Ljava/lang/Object;") : Ctr Z consts_1 false l [] (⟨"java/util/Arrays", "copyOf", "([Ljava/lang/Object;I)[Ljava/lang/Object;"⟩ : MethodName) jdk_65_method_119_code 2 (some (.array (.object "java/lang/Object"))) ({ frames := 2, cells := 1, slots := 2, locals := 45 } : Room) #[(.ref ar), (.int (2 : Int32))] h [] (fun v h' => ∃ b kb, v = some (.ref b) ∧ Arv Z h' b kb (.object "java/lang/Object") (2 : Int32) (Rv [e1, e2]) .null ∧ Exa Z h' b "[Ljava/lang/Object;" ∧ Ext h h') := by
  obtain ⟨hw, hEL, O2, P5, O4⟩ := id G
  refine Ctr.of_run (a0 := a0) (L0 := #[.val (.ref ar), .val (.int (2 : Int32))]) (plainFor_of_name pn_ars) hEL (by first | (simp [argsToLocals, Value.category, maxLocals]; done) | rfl) (fun K hK => ?_)
  obtain ⟨SD, AD, SE, XE, FE, AE, SM, XM, MI⟩ := id LX
  refine Run.pure hK (seg := [(0, .aload_n 0, 1), (1, .iload_n 1, 1), (2, .aload_n 0, 1)]) (by decide +kernel) (pc' := 3) (L' := #[.val (.ref ar), .val (.int (2 : Int32))]) (S' := [(.ref ar), (.int (2 : Int32)), (.ref ar)]) rfl ?_
  refine Run.gcl hK (index := 86) (hw _ (List.mem_of_getElem? (i := 213) rfl)) (hw _ (List.mem_of_getElem? (i := 214) rfl)) (hw _ (List.mem_of_getElem? (i := 194) rfl)) (hw _ (List.mem_of_getElem? (i := 216) rfl)) (hw _ (List.mem_of_getElem? (i := 215) rfl)) (hw _ (List.mem_of_getElem? (i := 217) rfl)) Xa MI rfl (by decide +kernel) (by decide) (Nat.le_of_ble_eq_true rfl) ?_
  refine Run.static hK (index := 300) (y := (⟨"java/util/Arrays", "copyOf", "([Ljava/lang/Object;ILjava/lang/Class;)[Ljava/lang/Object;"⟩ : MethodName)) (Wt := 0) (kc := 1) (ks := 2) (hw _ (List.mem_of_getElem? (i := 219) rfl)) (hw _ (List.mem_of_getElem? (i := 220) rfl)) (hw _ (List.mem_of_getElem? (i := 211) rfl)) (hw _ (List.mem_of_getElem? (i := 221) rfl)) (by decide) (W' := []) (fun _ q => nomatch q) (Ctr.cal (c_co32 G ar e1 e2 LX h Aa XI1 XI2) (hw _ (List.mem_of_getElem? (i := 221) rfl)) (hw _ (List.mem_of_getElem? (i := 211) rfl)) (by decide) (by decide)) rfl (argsL := [(.ref ar), (.int (2 : Int32)), (.ref mr)]) (rest := []) (lenOf pd_co3 rfl) rfl (Nat.le_of_ble_eq_true rfl) (by decide +kernel) (by decide) (by decide) (fun v1 h1 q1 n1 => ?_)
  obtain ⟨b1, kb, rfl, q⟩ := q1
  exact Run.retw hK (i := .areturn) rfl (Or.inr (Or.inr (Or.inr (Or.inr ⟨rfl, rfl, rfl⟩)))) (by decide +kernel) (by decide) (by decide) ⟨b1, kb, rfl, q⟩
set_option maxRecDepth 65536 in
set_option maxHeartbeats 40000000 in
theorem c_ta2 {l : Launch} {Z : State} {a0 : Array Value} {z0 : Int32} {fm : Value} (G : Env1 Z a0 z0 fm) (x0 ar : Addr) {k : ClassId} (e1 e2 : Addr) {N1 E0 e0 EM mr : Addr} {k1 k2 : ClassId} (LX : LF Z N1 E0 e0 EM mr k1 k2) (h : Heap) (Al : ALo Z h x0 ar k [e1, e2]) (XI1 : Exa Z h e1 "java/lang/Integer") (XI2 : Exa Z h e2 "java/lang/Integer") : Ctr Z consts_1 false l [] (⟨"java/util/ArrayList", "toArray", "()[Ljava/lang/Object;"⟩ : MethodName) jdk_38_method_16_code 1 (some (.array (.object "java/lang/Object"))) ({ frames := 3, cells := 1, slots := 2, locals := 60 } : Room) #[(.ref x0)] h [] (fun v h' => ∃ b kb, v = some (.ref b) ∧ Arv Z h' b kb (.object "java/lang/Object") (2 : Int32) (Rv [e1, e2]) .null ∧ Exa Z h' b "[Ljava/lang/Object;" ∧ Ext h h') := by
  obtain ⟨hw, hEL, O2, P5, O4⟩ := id G
  refine Ctr.of_run (a0 := a0) (L0 := #[.val (.ref x0)]) (plainFor_of_name pn_al) hEL (by first | (simp [argsToLocals, Value.category, maxLocals]; done) | rfl) (fun K hK => ?_)
  obtain ⟨X, Fe, Fs, ⟨m1, Fm⟩, Aa, Xa, Ov, hx0, gar⟩ := Al
  replace Fs : Fld Z h x0 "java/util/ArrayList" "size" "I" (.int (2 : Int32)) := Fs
  refine Run.pure hK (seg := [(0, .aload_n 0, 1)]) (by decide +kernel) (pc' := 1) (L' := #[.val (.ref x0)]) (S' := [(.ref x0)]) rfl ?_
  refine Run.getf hK (index := 9) (host := "") (Or.inl (hw _ (List.mem_of_getElem? (i := 113) rfl))) Via.refl Fe (by decide +kernel) ?_
  refine Run.pure hK (seg := [(4, .aload_n 0, 1)]) (by decide +kernel) (pc' := 5) (L' := #[.val (.ref x0)]) (S' := [(.ref x0), (.ref ar)]) rfl ?_
  refine Run.getf hK (index := 48) (host := "") (Or.inl (hw _ (List.mem_of_getElem? (i := 143) rfl))) Via.refl Fs (by decide +kernel) ?_
  refine Run.static hK (index := 66) (y := (⟨"java/util/Arrays", "copyOf", "([Ljava/lang/Object;I)[Ljava/lang/Object;"⟩ : MethodName)) (Wt := 0) (kc := 1) (ks := 2) (hw _ (List.mem_of_getElem? (i := 209) rfl)) (hw _ (List.mem_of_getElem? (i := 210) rfl)) (hw _ (List.mem_of_getElem? (i := 211) rfl)) (hw _ (List.mem_of_getElem? (i := 212) rfl)) (by decide) (W' := []) (fun _ q => nomatch q) (Ctr.cal (c_co22 G ar e1 e2 LX h Aa XI1 XI2 Xa) (hw _ (List.mem_of_getElem? (i := 212) rfl)) (hw _ (List.mem_of_getElem? (i := 211) rfl)) (by decide) (by decide)) rfl (argsL := [(.ref ar), (.int (2 : Int32))]) (rest := []) (lenOf pd_co2 rfl) rfl (Nat.le_of_ble_eq_true rfl) (by decide +kernel) (by decide) (by decide) (fun v1 h1 q1 n1 => ?_)
  obtain ⟨b1, kb, rfl, q⟩ := q1
  exact Run.retw hK (i := .areturn) rfl (Or.inr (Or.inr (Or.inr (Or.inr ⟨rfl, rfl, rfl⟩)))) (by decide +kernel) (by decide) (by decide) ⟨b1, kb, rfl, q⟩
set_option maxRecDepth 65536 in
set_option maxHeartbeats 40000000 in
theorem c_co33 {l : Launch} {Z : State} {a0 : Array Value} {z0 : Int32} {fm : Value} (G : Env1 Z a0 z0 fm) (ar : Addr) {k : ClassId} (e1 e2 e3 : Addr) {N1 E0 e0 EM mr : Addr} {k1 k2 : ClassId} (LX : LF Z N1 E0 e0 EM mr k1 k2) (h : Heap) (Aa : Arv Z h ar k (.object "java/lang/Object") 10 (Rv [e1, e2, e3]) .null) (XI1 : Exa Z h e1 "java/lang/Integer") (XI2 : Exa Z h e2 "java/lang/Integer") (XI3 : Exa Z h e3 "java/lang/Integer") : Ctr Z consts_1 false l [] (⟨"java/util/Arrays", "copyOf", "([Ljava/lang/Object;ILjava/lang/Class;)[Ljava/lang/Object;"⟩ : MethodName) jdk_65_method_120_code 4 (some (.array (.object "java/lang/Object"))) ({ frames := 1, cells := 1, slots := 3, locals := 24 } : Room) #[(.ref ar), (.int (3 : Int32)), (.ref mr)] h [] (fun v h' => ∃ b kb, v = some (.ref b) ∧ Arv Z h' b kb (.object "java/lang/Object") (3 : Int32) (Rv [e1, e2, e3]) .null ∧ Exa Z h' b "[Ljava/lang/Object;" ∧ Ext h h') := by
  obtain ⟨hw, hEL, O2, P5, O4⟩ := id G
  refine Ctr.of_run (a0 := a0) (L0 := #[.val (.ref ar), .val (.int (3 : Int32)), .val (.ref mr), .unset]) (plainFor_of_name pn_ars) hEL (by first | (simp [argsToLocals, Value.category, maxLocals]; done) | rfl) (fun K hK => ?_)
  obtain ⟨SD, AD, SE, XE, FE, AE, SM, XM, MI⟩ := id LX
  refine Run.old (fun hO => ?_)
  refine Run.pure hK (seg := [(0, .aload_n 2, 1)]) (by decide +kernel) (pc' := 1) (L' := #[.val (.ref ar), .val (.int (3 : Int32)), .val (.ref mr), .unset]) (S' := [(.ref mr)]) rfl ?_
  refine Run.ldck hK (index := 110) (hw _ (List.mem_of_getElem? (i := 222) rfl)) MI (by decide +kernel) ?_
  refine Run.acmp hK (cd := .ne) (o := 10) (same := true) rfl rfl (by simp) (by decide +kernel) (by decide) (pc' := 6) rfl ?_
  refine Run.pure hK (seg := [(6, .iload_n 1, 1)]) (by decide +kernel) (pc' := 7) (L' := #[.val (.ref ar), .val (.int (3 : Int32)), .val (.ref mr), .unset]) (S' := [(.int (3 : Int32))]) rfl ?_
  refine Run.newr hK (index := 2) (Oc := "java/lang/Object") (hw _ (List.mem_of_getElem? (i := 223) rfl)) (hw _ (List.mem_of_getElem? (i := 165) rfl)) (by decide +kernel) (by decide) (cap := 3) (by decide) (by decide) (by decide) (by decide) (ad := "[Ljava/lang/Object;") (by decide +kernel) (fun hb kb Eb Ab Xb Ob => ?_)
  obtain ⟨ab, zb⟩ : ∃ z, z = h.size := ⟨_, rfl⟩
  rw [← zb]
  rw [← zb] at Ab Xb
  refine Run.pure hK (seg := [(10, .goto 14, 3), (24, .astore_n 3, 1), (25, .aload_n 0, 1), (26, .iconst 0, 1), (27, .aload_n 3, 1), (28, .iconst 0, 1), (29, .aload_n 0, 1)]) (by decide +kernel) (pc' := 30) (L' := #[.val (.ref ar), .val (.int (3 : Int32)), .val (.ref mr), .val (.ref ab)]) (S' := [(.ref ar), (.int (0 : Int32)), (.ref ab), (.int (0 : Int32)), (.ref ar)]) rfl ?_
  refine Run.alen hK (Aa.ext Eb) (by decide +kernel) ?_
  refine Run.pure hK (seg := [(31, .iload_n 1, 1)]) (by decide +kernel) (pc' := 32) (L' := #[.val (.ref ar), .val (.int (3 : Int32)), .val (.ref mr), .val (.ref ab)]) (S' := [(.int (3 : Int32)), (.int (10 : Int32)), (.int (0 : Int32)), (.ref ab), (.int (0 : Int32)), (.ref ar)]) rfl ?_
  refine Run.static hK (index := 304) (y := (⟨"java/lang/Math", "min", "(II)I"⟩ : MethodName)) (Wt := 4) (kc := 0) (ks := 0) (hw _ (List.mem_of_getElem? (i := 224) rfl)) (hw _ (List.mem_of_getElem? (i := 225) rfl)) (hw _ (List.mem_of_getElem? (i := 162) rfl)) (hw _ (List.mem_of_getElem? (i := 226) rfl)) (by decide) (W' := []) (fun _ q => nomatch q) (Ctr.cal (c_min G (10 : Int32) (3 : Int32) hb) (hw _ (List.mem_of_getElem? (i := 226) rfl)) (hw _ (List.mem_of_getElem? (i := 162) rfl)) (by decide) (by decide)) rfl (argsL := [(.int (10 : Int32)), (.int (3 : Int32))]) (rest := [(.int (0 : Int32)), (.ref ab), (.int (0 : Int32)), (.ref ar)]) (lenOf pd_ii rfl) rfl (Nat.le_of_ble_eq_true rfl) (by decide +kernel) (by decide) (by decide) (fun vm hm qm nm => ?_)
  obtain ⟨rfl, rfl⟩ := qm
  rw [if_pos (by decide : (3 : Int32) < 10)]
  have P : Arv Z hm ab kb (.object "java/lang/Object") (3 : Int32) (List.replicate 3 .null) .null := Ab.pad (fun j => by simp only [List.getD_eq_getElem?_getD, List.getElem?_replicate]; split <;> rfl)
  have S1 : Sto Z hm ab (.ref e1) := by obtain ⟨c0, a1, a2, -⟩ := Ab; exact Sto.ofV a1 a2 Ob (Ins.of_exa (XI1.ext Eb) (hw _ (List.mem_of_getElem? (i := 166) rfl)))
  have S2 : Sto Z hm ab (.ref e2) := by obtain ⟨c0, a1, a2, -⟩ := Ab; exact Sto.ofV a1 a2 Ob (Ins.of_exa (XI2.ext Eb) (hw _ (List.mem_of_getElem? (i := 166) rfl)))
  have S3 : Sto Z hm ab (.ref e3) := by obtain ⟨c0, a1, a2, -⟩ := Ab; exact Sto.ofV a1 a2 Ob (Ins.of_exa (XI3.ext Eb) (hw _ (List.mem_of_getElem? (i := 166) rfl)))
  refine Run.cpyR hK (index := 150) (hw _ (List.mem_of_getElem? (i := 227) rfl)) (hw _ (List.mem_of_getElem? (i := 230) rfl)) (hw _ (List.mem_of_getElem? (i := 228) rfl)) (hw _ (List.mem_of_getElem? (i := 229) rfl)) (Aa.ext Eb) P (us := (Rv [e1, e2, e3])) ⟨S1, S2, S3, trivial⟩ (by decide) (by decide) (by decide) (by decide) (by decide) (by rfl) (by decide) (by rw [zb]; exact hO.1) (sfA P (by decide)) rfl (by decide +kernel) (by decide) (Wt := 0) (Nat.le_of_ble_eq_true rfl) (by decide) (fun hc Kc Bc => ?_)
  have Ax : Arv Z hc ab kb (.object "java/lang/Object") (3 : Int32) (Rv [e1, e2, e3]) .null := Bc.pad (fun j => by rfl)
  have Tx := ext_keep Eb Kc (fun x hx => by cases List.mem_singleton.mp hx; rw [zb]; exact Nat.le_refl _)
  refine Run.pure hK (seg := [(38, .aload_n 3, 1)]) (by decide +kernel) (pc' := 39) (L' := #[.val (.ref ar), .val (.int (3 : Int32)), .val (.ref mr), .val (.ref ab)]) (S' := [(.ref ab)]) rfl ?_
  exact Run.retw hK (i := .areturn) rfl (Or.inr (Or.inr (Or.inr (Or.inr ⟨rfl, rfl, rfl⟩)))) (by decide +kernel) (by decide) (by decide) ⟨ab, kb, rfl, Ax, Xb.keep Kc, Tx⟩
set_option maxRecDepth 65536 in
set_option maxHeartbeats 40000000 in
theorem c_co23 {l : Launch} {Z : State} {a0 : Array Value} {z0 : Int32} {fm : Value} (G : Env1 Z a0 z0 fm) (ar : Addr) {k : ClassId} (e1 e2 e3 : Addr) {N1 E0 e0 EM mr : Addr} {k1 k2 : ClassId} (LX : LF Z N1 E0 e0 EM mr k1 k2) (h : Heap) (Aa : Arv Z h ar k (.object "java/lang/Object") 10 (Rv [e1, e2, e3]) .null) (XI1 : Exa Z h e1 "java/lang/Integer") (XI2 : Exa Z h e2 "java/lang/Integer") (XI3 : Exa Z h e3 "java/lang/Integer") (Xa : Exa Z h ar "[Ljava/lang/Object;") : Ctr Z consts_1 false l [] (⟨"java/util/Arrays", "copyOf", "([Ljava/lang/Object;I)[Ljava/lang/Object;"⟩ : MethodName) jdk_65_method_119_code 2 (some (.array (.object "java/lang/Object"))) ({ frames := 2, cells := 1, slots := 3, locals := 45 } : Room) #[(.ref ar), (.int (3 : Int32))] h [] (fun v h' => ∃ b kb, v = some (.ref b) ∧ Arv Z h' b kb (.object "java/lang/Object") (3 : Int32) (Rv [e1, e2, e3]) .null ∧ Exa Z h' b "[Ljava/lang/Object;" ∧ Ext h h') := by
  obtain ⟨hw, hEL, O2, P5, O4⟩ := id G
  refine Ctr.of_run (a0 := a0) (L0 := #[.val (.ref ar), .val (.int (3 : Int32))]) (plainFor_of_name pn_ars) hEL (by first | (simp [argsToLocals, Value.category, maxLocals]; done) | rfl) (fun K hK => ?_)
  obtain ⟨SD, AD, SE, XE, FE, AE, SM, XM, MI⟩ := id LX
  refine Run.pure hK (seg := [(0, .aload_n 0, 1), (1, .iload_n 1, 1), (2, .aload_n 0, 1)]) (by decide +kernel) (pc' := 3) (L' := #[.val (.ref ar), .val (.int (3 : Int32))]) (S' := [(.ref ar), (.int (3 : Int32)), (.ref ar)]) rfl ?_
  refine Run.gcl hK (index := 86) (hw _ (List.mem_of_getElem? (i := 213) rfl)) (hw _ (List.mem_of_getElem? (i := 214) rfl)) (hw _ (List.mem_of_getElem? (i := 194) rfl)) (hw _ (List.mem_of_getElem? (i := 216) rfl)) (hw _ (List.mem_of_getElem? (i := 215) rfl)) (hw _ (List.mem_of_getElem? (i := 217) rfl)) Xa MI rfl (by decide +kernel) (by decide) (Nat.le_of_ble_eq_true rfl) ?_
  refine Run.static hK (index := 300) (y := (⟨"java/util/Arrays", "copyOf", "([Ljava/lang/Object;ILjava/lang/Class;)[Ljava/lang/Object;"⟩ : MethodName)) (Wt := 0) (kc := 1) (ks := 3) (hw _ (List.mem_of_getElem? (i := 219) rfl)) (hw _ (List.mem_of_getElem? (i := 220) rfl)) (hw _ (List.mem_of_getElem? (i := 211) rfl)) (hw _ (List.mem_of_getElem? (i := 221) rfl)) (by decide) (W' := []) (fun _ q => nomatch q) (Ctr.cal (c_co33 G ar e1 e2 e3 LX h Aa XI1 XI2 XI3) (hw _ (List.mem_of_getElem? (i := 221) rfl)) (hw _ (List.mem_of_getElem? (i := 211) rfl)) (by decide) (by decide)) rfl (argsL := [(.ref ar), (.int (3 : Int32)), (.ref mr)]) (rest := []) (lenOf pd_co3 rfl) rfl (Nat.le_of_ble_eq_true rfl) (by decide +kernel) (by decide) (by decide) (fun v1 h1 q1 n1 => ?_)
  obtain ⟨b1, kb, rfl, q⟩ := q1
  exact Run.retw hK (i := .areturn) rfl (Or.inr (Or.inr (Or.inr (Or.inr ⟨rfl, rfl, rfl⟩)))) (by decide +kernel) (by decide) (by decide) ⟨b1, kb, rfl, q⟩
set_option maxRecDepth 65536 in
set_option maxHeartbeats 40000000 in
theorem c_ta3 {l : Launch} {Z : State} {a0 : Array Value} {z0 : Int32} {fm : Value} (G : Env1 Z a0 z0 fm) (x0 ar : Addr) {k : ClassId} (e1 e2 e3 : Addr) {N1 E0 e0 EM mr : Addr} {k1 k2 : ClassId} (LX : LF Z N1 E0 e0 EM mr k1 k2) (h : Heap) (Al : ALo Z h x0 ar k [e1, e2, e3]) (XI1 : Exa Z h e1 "java/lang/Integer") (XI2 : Exa Z h e2 "java/lang/Integer") (XI3 : Exa Z h e3 "java/lang/Integer") : Ctr Z consts_1 false l [] (⟨"java/util/ArrayList", "toArray", "()[Ljava/lang/Object;"⟩ : MethodName) jdk_38_method_16_code 1 (some (.array (.object "java/lang/Object"))) ({ frames := 3, cells := 1, slots := 3, locals := 60 } : Room) #[(.ref x0)] h [] (fun v h' => ∃ b kb, v = some (.ref b) ∧ Arv Z h' b kb (.object "java/lang/Object") (3 : Int32) (Rv [e1, e2, e3]) .null ∧ Exa Z h' b "[Ljava/lang/Object;" ∧ Ext h h') := by
  obtain ⟨hw, hEL, O2, P5, O4⟩ := id G
  refine Ctr.of_run (a0 := a0) (L0 := #[.val (.ref x0)]) (plainFor_of_name pn_al) hEL (by first | (simp [argsToLocals, Value.category, maxLocals]; done) | rfl) (fun K hK => ?_)
  obtain ⟨X, Fe, Fs, ⟨m1, Fm⟩, Aa, Xa, Ov, hx0, gar⟩ := Al
  replace Fs : Fld Z h x0 "java/util/ArrayList" "size" "I" (.int (3 : Int32)) := Fs
  refine Run.pure hK (seg := [(0, .aload_n 0, 1)]) (by decide +kernel) (pc' := 1) (L' := #[.val (.ref x0)]) (S' := [(.ref x0)]) rfl ?_
  refine Run.getf hK (index := 9) (host := "") (Or.inl (hw _ (List.mem_of_getElem? (i := 113) rfl))) Via.refl Fe (by decide +kernel) ?_
  refine Run.pure hK (seg := [(4, .aload_n 0, 1)]) (by decide +kernel) (pc' := 5) (L' := #[.val (.ref x0)]) (S' := [(.ref x0), (.ref ar)]) rfl ?_
  refine Run.getf hK (index := 48) (host := "") (Or.inl (hw _ (List.mem_of_getElem? (i := 143) rfl))) Via.refl Fs (by decide +kernel) ?_
  refine Run.static hK (index := 66) (y := (⟨"java/util/Arrays", "copyOf", "([Ljava/lang/Object;I)[Ljava/lang/Object;"⟩ : MethodName)) (Wt := 0) (kc := 1) (ks := 3) (hw _ (List.mem_of_getElem? (i := 209) rfl)) (hw _ (List.mem_of_getElem? (i := 210) rfl)) (hw _ (List.mem_of_getElem? (i := 211) rfl)) (hw _ (List.mem_of_getElem? (i := 212) rfl)) (by decide) (W' := []) (fun _ q => nomatch q) (Ctr.cal (c_co23 G ar e1 e2 e3 LX h Aa XI1 XI2 XI3 Xa) (hw _ (List.mem_of_getElem? (i := 212) rfl)) (hw _ (List.mem_of_getElem? (i := 211) rfl)) (by decide) (by decide)) rfl (argsL := [(.ref ar), (.int (3 : Int32))]) (rest := []) (lenOf pd_co2 rfl) rfl (Nat.le_of_ble_eq_true rfl) (by decide +kernel) (by decide) (by decide) (fun v1 h1 q1 n1 => ?_)
  obtain ⟨b1, kb, rfl, q⟩ := q1
  exact Run.retw hK (i := .areturn) rfl (Or.inr (Or.inr (Or.inr (Or.inr ⟨rfl, rfl, rfl⟩)))) (by decide +kernel) (by decide) (by decide) ⟨b1, kb, rfl, q⟩
set_option maxRecDepth 65536 in
set_option maxHeartbeats 40000000 in
theorem c_l1 {l : Launch} {Z : State} {a0 : Array Value} {z0 : Int32} {fm : Value} (G : Env1 Z a0 z0 fm) (x0 e1 : Addr) {N1 E0 e0 EM mr : Addr} {k1 k2 : ClassId} (LX : LF Z N1 E0 e0 EM mr k1 k2) (h : Heap) (hx0 : Z.heap.size ≤ x0) (X : Exa Z h x0 "java/util/ImmutableCollections$List12") {u0 u1 : Value} (F0 : Fld Z h x0 "java/util/ImmutableCollections$List12" "e0" "Ljava/lang/Object;" u0) (F1 : Fld Z h x0 "java/util/ImmutableCollections$List12" "e1" "Ljava/lang/Object;" u1) : Ctr Z consts_1 false l [] (⟨"java/util/ImmutableCollections$List12", "<init>", "(Ljava/lang/Object;)V"⟩ : MethodName) jdk_44_method_1_code 2 none ({ frames := 4, cells := 0, slots := 0, locals := 56 } : Room) #[(.ref x0), (.ref e1)] h [] (fun v h' => v = none ∧ Exa Z h' x0 "java/util/ImmutableCollections$List12" ∧ Fld Z h' x0 "java/util/ImmutableCollections$List12" "e1" "Ljava/lang/Object;" (.ref EM) ∧ Keep h h' [x0]) := by
  obtain ⟨hw, hEL, O2, P5, O4⟩ := id G
  refine Ctr.of_run (a0 := a0) (L0 := #[.val (.ref x0), .val (.ref e1)]) (plainFor_of_name pn_l12) hEL (by first | (simp [argsToLocals, Value.category, maxLocals]; done) | rfl) (fun K hK => ?_)
  obtain ⟨SD, AD, SE, XE, FE, AE, SM, XM, MI⟩ := id LX
  refine Run.old (fun hO => ?_)
  refine Run.pure hK (seg := [(0, .aload_n 0, 1)]) (by decide +kernel) (pc' := 1) (L' := #[.val (.ref x0), .val (.ref e1)]) (S' := [(.ref x0)]) rfl ?_
  refine Run.special hK (index := 1) (y := (⟨"java/util/ImmutableCollections$AbstractImmutableList", "<init>", "()V"⟩ : MethodName)) (Wt := 0) (kc := 0) (ks := 0) rfl (hw _ (List.mem_of_getElem? (i := 241) rfl)) (hw _ (List.mem_of_getElem? (i := 242) rfl)) (hw _ (List.mem_of_getElem? (i := 246) rfl)) (by decide) (a := x0) (W' := []) (fun _ q => nomatch q) (Ctr.cal (c_ail G x0 h) (hw _ (List.mem_of_getElem? (i := 246) rfl)) (hw _ (List.mem_of_getElem? (i := 245) rfl)) (by decide) (by decide)) rfl (argsL := []) (rest := []) (lenOf pd_v rfl) rfl (Nat.le_of_ble_eq_true rfl) (by decide +kernel) (by decide) (by decide) (fun v0 h0 q0 n0 => ?_)
  obtain ⟨rfl, rfl⟩ := q0
  refine Run.pure hK (seg := [(4, .aload_n 0, 1), (5, .aload_n 1, 1)]) (by decide +kernel) (pc' := 6) (L' := #[.val (.ref x0), .val (.ref e1)]) (S' := [(.ref e1), (.ref x0)]) rfl ?_
  refine Run.static hK (index := 7) (y := (⟨"java/util/Objects", "requireNonNull", "(Ljava/lang/Object;)Ljava/lang/Object;"⟩ : MethodName)) (Wt := 1) (kc := 0) (ks := 0) (hw _ (List.mem_of_getElem? (i := 255) rfl)) (hw _ (List.mem_of_getElem? (i := 256) rfl)) (hw _ (List.mem_of_getElem? (i := 39) rfl)) (hw _ (List.mem_of_getElem? (i := 257) rfl)) (by decide) (W' := []) (fun _ q => nomatch q) (Ctr.cal (c_rn1 G e1 h0) (hw _ (List.mem_of_getElem? (i := 257) rfl)) (hw _ (List.mem_of_getElem? (i := 39) rfl)) (by decide) (by decide)) rfl (argsL := [(.ref e1)]) (rest := [(.ref x0)]) (lenOf pd_rn1 rfl) rfl (Nat.le_of_ble_eq_true rfl) (by decide +kernel) (by decide) (by decide) (fun v1 h1 q1 n1 => ?_)
  obtain ⟨rfl, rfl⟩ := q1
  refine Run.putf hK (index := 13) (host := "") (Or.inl (hw _ (List.mem_of_getElem? (i := 258) rfl))) Via.refl F0 X (Or.inr ⟨(hw _ (List.mem_of_getElem? (i := 259) rfl)), rfl, rfl⟩) (hw _ (List.mem_of_getElem? (i := 235) rfl)) (ty := (.object "java/lang/Object")) (by decide) rfl rfl hx0 (sfE X (by decide) (by decide)) (by decide +kernel) (fun h2 W2 => ?_)
  replace F0 := F0.same W2
  replace F1 := F1.other W2 (Or.inr (slot_ne (Or.inr (hw _ (List.mem_of_getElem? (i := 262) rfl))) (Or.inr (hw _ (List.mem_of_getElem? (i := 259) rfl))) (by decide) (by decide : parseFieldDescriptor "Ljava/lang/Object;" = some (.object "java/lang/Object")) (by decide : parseFieldDescriptor "Ljava/lang/Object;" = some (.object "java/lang/Object"))))
  replace X := X.wr W2
  refine Run.pure hK (seg := [(12, .aload_n 0, 1)]) (by decide +kernel) (pc' := 13) (L' := #[.val (.ref x0), .val (.ref e1)]) (S' := [(.ref x0)]) rfl ?_
  refine Run.old (fun hO2 => ?_)
  refine Run.getsN hK (index := 19) (hw _ (List.mem_of_getElem? (i := 260) rfl)) Via.refl (SM.ext hO2) (by decide +kernel) ?_
  refine Run.putf hK (index := 24) (host := "") (Or.inl (hw _ (List.mem_of_getElem? (i := 261) rfl))) Via.refl F1 X (Or.inr ⟨(hw _ (List.mem_of_getElem? (i := 262) rfl)), rfl, rfl⟩) (hw _ (List.mem_of_getElem? (i := 235) rfl)) (ty := (.object "java/lang/Object")) (by decide) rfl rfl hx0 (sfE X (by decide) (by decide)) (by decide +kernel) (fun h4 W4 => ?_)
  replace F0 := F0.other W4 (Or.inr (slot_ne (Or.inr (hw _ (List.mem_of_getElem? (i := 259) rfl))) (Or.inr (hw _ (List.mem_of_getElem? (i := 262) rfl))) (by decide) (by decide : parseFieldDescriptor "Ljava/lang/Object;" = some (.object "java/lang/Object")) (by decide : parseFieldDescriptor "Ljava/lang/Object;" = some (.object "java/lang/Object"))))
  replace F1 := F1.same W4
  replace X := X.wr W4
  exact Run.retv hK (by decide +kernel) (by decide) (by decide) ⟨rfl, X, F1, ((Keep.refl _ [x0]).wr W2 (Or.inl (List.mem_singleton.mpr rfl))).wr W4 (Or.inl (List.mem_singleton.mpr rfl))⟩
set_option maxRecDepth 65536 in
set_option maxHeartbeats 40000000 in
theorem c_l2 {l : Launch} {Z : State} {a0 : Array Value} {z0 : Int32} {fm : Value} (G : Env1 Z a0 z0 fm) (x0 e1 e2 : Addr) {N1 E0 e0 EM mr : Addr} {k1 k2 : ClassId} (LX : LF Z N1 E0 e0 EM mr k1 k2) (h : Heap) (hx0 : Z.heap.size ≤ x0) (X : Exa Z h x0 "java/util/ImmutableCollections$List12") {u0 u1 : Value} (F0 : Fld Z h x0 "java/util/ImmutableCollections$List12" "e0" "Ljava/lang/Object;" u0) (F1 : Fld Z h x0 "java/util/ImmutableCollections$List12" "e1" "Ljava/lang/Object;" u1) : Ctr Z consts_1 false l [] (⟨"java/util/ImmutableCollections$List12", "<init>", "(Ljava/lang/Object;Ljava/lang/Object;)V"⟩ : MethodName) jdk_44_method_2_code 3 none ({ frames := 4, cells := 0, slots := 0, locals := 56 } : Room) #[(.ref x0), (.ref e1), (.ref e2)] h [] (fun v h' => v = none ∧ Exa Z h' x0 "java/util/ImmutableCollections$List12" ∧ Fld Z h' x0 "java/util/ImmutableCollections$List12" "e1" "Ljava/lang/Object;" (.ref e2) ∧ Keep h h' [x0]) := by
  obtain ⟨hw, hEL, O2, P5, O4⟩ := id G
  refine Ctr.of_run (a0 := a0) (L0 := #[.val (.ref x0), .val (.ref e1), .val (.ref e2)]) (plainFor_of_name pn_l12) hEL (by first | (simp [argsToLocals, Value.category, maxLocals]; done) | rfl) (fun K hK => ?_)
  obtain ⟨SD, AD, SE, XE, FE, AE, SM, XM, MI⟩ := id LX
  refine Run.old (fun hO => ?_)
  refine Run.pure hK (seg := [(0, .aload_n 0, 1)]) (by decide +kernel) (pc' := 1) (L' := #[.val (.ref x0), .val (.ref e1), .val (.ref e2)]) (S' := [(.ref x0)]) rfl ?_
  refine Run.special hK (index := 1) (y := (⟨"java/util/ImmutableCollections$AbstractImmutableList", "<init>", "()V"⟩ : MethodName)) (Wt := 0) (kc := 0) (ks := 0) rfl (hw _ (List.mem_of_getElem? (i := 241) rfl)) (hw _ (List.mem_of_getElem? (i := 242) rfl)) (hw _ (List.mem_of_getElem? (i := 246) rfl)) (by decide) (a := x0) (W' := []) (fun _ q => nomatch q) (Ctr.cal (c_ail G x0 h) (hw _ (List.mem_of_getElem? (i := 246) rfl)) (hw _ (List.mem_of_getElem? (i := 245) rfl)) (by decide) (by decide)) rfl (argsL := []) (rest := []) (lenOf pd_v rfl) rfl (Nat.le_of_ble_eq_true rfl) (by decide +kernel) (by decide) (by decide) (fun v0 h0 q0 n0 => ?_)
  obtain ⟨rfl, rfl⟩ := q0
  refine Run.pure hK (seg := [(4, .aload_n 0, 1), (5, .aload_n 1, 1)]) (by decide +kernel) (pc' := 6) (L' := #[.val (.ref x0), .val (.ref e1), .val (.ref e2)]) (S' := [(.ref e1), (.ref x0)]) rfl ?_
  refine Run.static hK (index := 7) (y := (⟨"java/util/Objects", "requireNonNull", "(Ljava/lang/Object;)Ljava/lang/Object;"⟩ : MethodName)) (Wt := 1) (kc := 0) (ks := 0) (hw _ (List.mem_of_getElem? (i := 255) rfl)) (hw _ (List.mem_of_getElem? (i := 256) rfl)) (hw _ (List.mem_of_getElem? (i := 39) rfl)) (hw _ (List.mem_of_getElem? (i := 257) rfl)) (by decide) (W' := []) (fun _ q => nomatch q) (Ctr.cal (c_rn1 G e1 h0) (hw _ (List.mem_of_getElem? (i := 257) rfl)) (hw _ (List.mem_of_getElem? (i := 39) rfl)) (by decide) (by decide)) rfl (argsL := [(.ref e1)]) (rest := [(.ref x0)]) (lenOf pd_rn1 rfl) rfl (Nat.le_of_ble_eq_true rfl) (by decide +kernel) (by decide) (by decide) (fun v1 h1 q1 n1 => ?_)
  obtain ⟨rfl, rfl⟩ := q1
  refine Run.putf hK (index := 13) (host := "") (Or.inl (hw _ (List.mem_of_getElem? (i := 258) rfl))) Via.refl F0 X (Or.inr ⟨(hw _ (List.mem_of_getElem? (i := 259) rfl)), rfl, rfl⟩) (hw _ (List.mem_of_getElem? (i := 235) rfl)) (ty := (.object "java/lang/Object")) (by decide) rfl rfl hx0 (sfE X (by decide) (by decide)) (by decide +kernel) (fun h2 W2 => ?_)
  replace F0 := F0.same W2
  replace F1 := F1.other W2 (Or.inr (slot_ne (Or.inr (hw _ (List.mem_of_getElem? (i := 262) rfl))) (Or.inr (hw _ (List.mem_of_getElem? (i := 259) rfl))) (by decide) (by decide : parseFieldDescriptor "Ljava/lang/Object;" = some (.object "java/lang/Object")) (by decide : parseFieldDescriptor "Ljava/lang/Object;" = some (.object "java/lang/Object"))))
  replace X := X.wr W2
  refine Run.pure hK (seg := [(12, .aload_n 0, 1), (13, .aload_n 2, 1)]) (by decide +kernel) (pc' := 14) (L' := #[.val (.ref x0), .val (.ref e1), .val (.ref e2)]) (S' := [(.ref e2), (.ref x0)]) rfl ?_
  refine Run.static hK (index := 7) (y := (⟨"java/util/Objects", "requireNonNull", "(Ljava/lang/Object;)Ljava/lang/Object;"⟩ : MethodName)) (Wt := 1) (kc := 0) (ks := 0) (hw _ (List.mem_of_getElem? (i := 255) rfl)) (hw _ (List.mem_of_getElem? (i := 256) rfl)) (hw _ (List.mem_of_getElem? (i := 39) rfl)) (hw _ (List.mem_of_getElem? (i := 257) rfl)) (by decide) (W' := []) (fun _ q => nomatch q) (Ctr.cal (c_rn1 G e2 h2) (hw _ (List.mem_of_getElem? (i := 257) rfl)) (hw _ (List.mem_of_getElem? (i := 39) rfl)) (by decide) (by decide)) rfl (argsL := [(.ref e2)]) (rest := [(.ref x0)]) (lenOf pd_rn1 rfl) rfl (Nat.le_of_ble_eq_true rfl) (by decide +kernel) (by decide) (by decide) (fun v3 h3 q3 n3 => ?_)
  obtain ⟨rfl, rfl⟩ := q3
  refine Run.putf hK (index := 24) (host := "") (Or.inl (hw _ (List.mem_of_getElem? (i := 261) rfl))) Via.refl F1 X (Or.inr ⟨(hw _ (List.mem_of_getElem? (i := 262) rfl)), rfl, rfl⟩) (hw _ (List.mem_of_getElem? (i := 235) rfl)) (ty := (.object "java/lang/Object")) (by decide) rfl rfl hx0 (sfE X (by decide) (by decide)) (by decide +kernel) (fun h4 W4 => ?_)
  replace F0 := F0.other W4 (Or.inr (slot_ne (Or.inr (hw _ (List.mem_of_getElem? (i := 259) rfl))) (Or.inr (hw _ (List.mem_of_getElem? (i := 262) rfl))) (by decide) (by decide : parseFieldDescriptor "Ljava/lang/Object;" = some (.object "java/lang/Object")) (by decide : parseFieldDescriptor "Ljava/lang/Object;" = some (.object "java/lang/Object"))))
  replace F1 := F1.same W4
  replace X := X.wr W4
  exact Run.retv hK (by decide +kernel) (by decide) (by decide) ⟨rfl, X, F1, ((Keep.refl _ [x0]).wr W2 (Or.inl (List.mem_singleton.mpr rfl))).wr W4 (Or.inl (List.mem_singleton.mpr rfl))⟩
set_option maxRecDepth 65536 in
set_option maxHeartbeats 40000000 in
theorem c_ln {l : Launch} {Z : State} {a0 : Array Value} {z0 : Int32} {fm : Value} (G : Env1 Z a0 z0 fm) (x0 b : Addr) (h : Heap) (hx0 : Z.heap.size ≤ x0) (X : Exa Z h x0 "java/util/ImmutableCollections$ListN") {u0 u1 : Value} (F0 : Fld Z h x0 "java/util/ImmutableCollections$ListN" "elements" "[Ljava/lang/Object;" u0) (F1 : Fld Z h x0 "java/util/ImmutableCollections$ListN" "allowNulls" "Z" u1) : Ctr Z consts_1 false l [] (⟨"java/util/ImmutableCollections$ListN", "<init>", "([Ljava/lang/Object;Z)V"⟩ : MethodName) jdk_45_method_1_code 3 none ({ frames := 4, cells := 0, slots := 0, locals := 56 } : Room) #[(.ref x0), (.ref b), (.int (0 : Int32))] h [] (fun v h' => v = none ∧ Exa Z h' x0 "java/util/ImmutableCollections$ListN" ∧ Fld Z h' x0 "java/util/ImmutableCollections$ListN" "elements" "[Ljava/lang/Object;" (.ref b) ∧ Keep h h' [x0]) := by
  obtain ⟨hw, hEL, O2, P5, O4⟩ := id G
  refine Ctr.of_run (a0 := a0) (L0 := #[.val (.ref x0), .val (.ref b), .val (.int (0 : Int32))]) (plainFor_of_name pn_ln) hEL (by first | (simp [argsToLocals, Value.category, maxLocals]; done) | rfl) (fun K hK => ?_)
  refine Run.pure hK (seg := [(0, .aload_n 0, 1)]) (by decide +kernel) (pc' := 1) (L' := #[.val (.ref x0), .val (.ref b), .val (.int (0 : Int32))]) (S' := [(.ref x0)]) rfl ?_
  refine Run.special hK (index := 1) (y := (⟨"java/util/ImmutableCollections$AbstractImmutableList", "<init>", "()V"⟩ : MethodName)) (Wt := 0) (kc := 0) (ks := 0) rfl (hw _ (List.mem_of_getElem? (i := 306) rfl)) (hw _ (List.mem_of_getElem? (i := 242) rfl)) (hw _ (List.mem_of_getElem? (i := 246) rfl)) (by decide) (a := x0) (W' := []) (fun _ q => nomatch q) (Ctr.cal (c_ail G x0 h) (hw _ (List.mem_of_getElem? (i := 246) rfl)) (hw _ (List.mem_of_getElem? (i := 245) rfl)) (by decide) (by decide)) rfl (argsL := []) (rest := []) (lenOf pd_v rfl) rfl (Nat.le_of_ble_eq_true rfl) (by decide +kernel) (by decide) (by decide) (fun v0 h0 q0 n0 => ?_)
  obtain ⟨rfl, rfl⟩ := q0
  refine Run.pure hK (seg := [(4, .aload_n 0, 1), (5, .aload_n 1, 1)]) (by decide +kernel) (pc' := 6) (L' := #[.val (.ref x0), .val (.ref b), .val (.int (0 : Int32))]) (S' := [(.ref b), (.ref x0)]) rfl ?_
  refine Run.putf hK (index := 7) (host := "") (Or.inl (hw _ (List.mem_of_getElem? (i := 74) rfl))) Via.refl F0 X (Or.inr ⟨(hw _ (List.mem_of_getElem? (i := 75) rfl)), rfl, rfl⟩) (hw _ (List.mem_of_getElem? (i := 301) rfl)) (ty := (.array (.object "java/lang/Object"))) (by decide) rfl rfl hx0 (sfE X (by decide) (by decide)) (by decide +kernel) (fun h2 W2 => ?_)
  replace F0 := F0.same W2
  replace F1 := F1.other W2 (Or.inr (slot_ne (Or.inr (hw _ (List.mem_of_getElem? (i := 311) rfl))) (Or.inr (hw _ (List.mem_of_getElem? (i := 75) rfl))) (by decide) (by decide : parseFieldDescriptor "Z" = some .boolean) (by decide : parseFieldDescriptor "[Ljava/lang/Object;" = some (.array (.object "java/lang/Object")))))
  replace X := X.wr W2
  refine Run.pure hK (seg := [(9, .aload_n 0, 1), (10, .iload_n 2, 1)]) (by decide +kernel) (pc' := 11) (L' := #[.val (.ref x0), .val (.ref b), .val (.int (0 : Int32))]) (S' := [(.int (0 : Int32)), (.ref x0)]) rfl ?_
  refine Run.putf hK (index := 13) (host := "") (Or.inl (hw _ (List.mem_of_getElem? (i := 310) rfl))) Via.refl F1 X (Or.inr ⟨(hw _ (List.mem_of_getElem? (i := 311) rfl)), rfl, rfl⟩) (hw _ (List.mem_of_getElem? (i := 301) rfl)) (ty := .boolean) (by decide) rfl rfl hx0 (sfE X (by decide) (by decide)) (by decide +kernel) (fun h4 W4 => ?_)
  replace F0 := F0.other W4 (Or.inr (slot_ne (Or.inr (hw _ (List.mem_of_getElem? (i := 75) rfl))) (Or.inr (hw _ (List.mem_of_getElem? (i := 311) rfl))) (by decide) (by decide : parseFieldDescriptor "[Ljava/lang/Object;" = some (.array (.object "java/lang/Object"))) (by decide : parseFieldDescriptor "Z" = some .boolean)))
  replace F1 := F1.same W4
  replace X := X.wr W4
  exact Run.retv hK (by decide +kernel) (by decide) (by decide) ⟨rfl, X, F0, ((Keep.refl _ [x0]).wr W2 (Or.inl (List.mem_singleton.mpr rfl))).wr W4 (Or.inl (List.mem_singleton.mpr rfl))⟩
set_option maxRecDepth 65536 in
set_option maxHeartbeats 40000000 in
theorem c_lfa {l : Launch} {Z : State} {a0 : Array Value} {z0 : Int32} {fm : Value} (G : Env1 Z a0 z0 fm) (ar : Addr) {k : ClassId} (e1 e2 e3 : Addr) {N1 E0 e0 EM mr : Addr} {k1 k2 : ClassId} (LX : LF Z N1 E0 e0 EM mr k1 k2) (h : Heap) (Aa : Arv Z h ar k (.object "java/lang/Object") (3 : Int32) (Rv [e1, e2, e3]) .null) (XI1 : Exa Z h e1 "java/lang/Integer") (XI2 : Exa Z h e2 "java/lang/Integer") (XI3 : Exa Z h e3 "java/lang/Integer") : Ctr Z consts_1 false l [] (⟨"java/util/ImmutableCollections", "listFromArray", "([Ljava/lang/Object;)Ljava/util/List;"⟩ : MethodName) jdk_56_method_4_code 3 (some (.object "java/util/List")) ({ frames := 5, cells := 2, slots := 5, locals := 75 } : Room) #[(.ref ar)] h [] (fun v h' => ∃ p, v = some (.ref p) ∧ Pl Z h' p EM (3 : Int32) ∧ Ext h h') := by
  obtain ⟨hw, hEL, O2, P5, O4⟩ := id G
  refine Ctr.of_run (a0 := a0) (L0 := #[.val (.ref ar), .unset, .unset]) (plainFor_of_name pn_imc) hEL (by first | (simp [argsToLocals, Value.category, maxLocals]; done) | rfl) (fun K hK => ?_)
  obtain ⟨SD, AD, SE, XE, FE, AE, SM, XM, MI⟩ := id LX
  refine Run.old (fun hO => ?_)
  refine Run.pure hK (seg := [(0, .aload_n 0, 1)]) (by decide +kernel) (pc' := 1) (L' := #[.val (.ref ar), .unset, .unset]) (S' := [(.ref ar)]) rfl ?_
  refine Run.alen hK Aa (by decide +kernel) ?_
  refine Run.newr hK (index := 2) (Oc := "java/lang/Object") (hw _ (List.mem_of_getElem? (i := 299) rfl)) (hw _ (List.mem_of_getElem? (i := 165) rfl)) (by decide +kernel) (by decide) (cap := 3) (by decide) (by decide) (by decide) (by decide) (ad := "[Ljava/lang/Object;") (by decide +kernel) (fun hb kb Eb Ab Xb Ob => ?_)
  obtain ⟨ab, zb⟩ : ∃ z, z = h.size := ⟨_, rfl⟩
  rw [← zb]
  rw [← zb] at Ab Xb
  have nb : ar ≠ ab := fun z => absurd Aa.lt (by rw [z, zb]; exact Nat.lt_irrefl _)
  have K0 : Keep h hb [ab] := (Keep.refl h [ab]).ext Eb
  replace Aa := Aa.ext Eb
  replace XI1 := XI1.ext Eb
  replace XI2 := XI2.ext Eb
  replace XI3 := XI3.ext Eb
  refine Run.pure hK (seg := [(5, .astore_n 1, 1), (6, .iconst 0, 1), (7, .istore_n 2, 1)]) (by decide +kernel) (pc' := 8) (L' := #[.val (.ref ar), .val (.ref ab), .val (.int (0 : Int32))]) (S' := []) rfl ?_
  refine Run.pure hK (seg := [(8, .iload_n 2, 1), (9, .aload_n 0, 1)]) (by decide +kernel) (pc' := 10) (L' := #[.val (.ref ar), .val (.ref ab), .val (.int (0 : Int32))]) (S' := [(.ref ar), (.int (0 : Int32))]) rfl ?_
  refine Run.alen hK Aa (by decide +kernel) ?_
  refine Run.icmp hK (cd := .ge) (o := 18) (by decide +kernel) (by decide) (pc' := 29) rfl (fun q => by replace q := (h_ge _ _).1 q; exact absurd q (by decide)) (fun _ => ?_)
  refine Run.pure hK (seg := [(14, .aload_n 1, 1), (15, .iload_n 2, 1), (16, .aload_n 0, 1), (17, .iload_n 2, 1)]) (by decide +kernel) (pc' := 18) (L' := #[.val (.ref ar), .val (.ref ab), .val (.int (0 : Int32))]) (S' := [(.int (0 : Int32)), (.ref ar), (.int (0 : Int32)), (.ref ab)]) rfl ?_
  refine Run.aalv hK (v := (.ref e1)) Aa ⟨by decide, by decide⟩ rfl (by decide +kernel) ?_
  refine Run.static hK (index := 37) (y := (⟨"java/util/Objects", "requireNonNull", "(Ljava/lang/Object;)Ljava/lang/Object;"⟩ : MethodName)) (Wt := 2) (kc := 0) (ks := 0) (hw _ (List.mem_of_getElem? (i := 300) rfl)) (hw _ (List.mem_of_getElem? (i := 256) rfl)) (hw _ (List.mem_of_getElem? (i := 39) rfl)) (hw _ (List.mem_of_getElem? (i := 257) rfl)) (by decide) (W' := []) (fun _ q => nomatch q) (Ctr.cal (c_rn1 G e1 hb) (hw _ (List.mem_of_getElem? (i := 257) rfl)) (hw _ (List.mem_of_getElem? (i := 39) rfl)) (by decide) (by decide)) rfl (argsL := [(.ref e1)]) (rest := [(.int (0 : Int32)), (.ref ab)]) (lenOf pd_rn1 rfl) rfl (Nat.le_of_ble_eq_true rfl) (by decide +kernel) (by decide) (by decide) (fun vr0 hr0 qr0 nr0 => ?_)
  obtain ⟨rfl, rfl⟩ := qr0
  have S0 : Sto Z hr0 ab (.ref e1) := by obtain ⟨c0, a1, a2, -⟩ := Ab; exact Sto.ofV a1 a2 Ob (Ins.of_exa XI1 (hw _ (List.mem_of_getElem? (i := 166) rfl)))
  refine Run.ast hK Ab ⟨by decide, by decide⟩ S0 (by rw [zb]; exact hO.1) (sfA Ab (by decide)) (by decide +kernel) (fun hs0 Ws0 B0 => ?_)
  replace Aa := Aa.other Ws0 nb
  have K1 := K0.wr Ws0 (Or.inl (List.mem_singleton.mpr rfl))
  replace XI1 := XI1.wr Ws0
  replace XI2 := XI2.wr Ws0
  replace XI3 := XI3.wr Ws0
  refine Run.pure hK (seg := [(23, .iinc 2 1, 3), (26, .goto (-18), 3)]) (by decide +kernel) (pc' := 8) (L' := #[.val (.ref ar), .val (.ref ab), .val (.int ((0 : Int32) + (1 : Int32)))]) (S' := []) rfl ?_
  rw [show (0 : Int32) + (1 : Int32) = (1 : Int32) from rfl]
  refine Run.pure hK (seg := [(8, .iload_n 2, 1), (9, .aload_n 0, 1)]) (by decide +kernel) (pc' := 10) (L' := #[.val (.ref ar), .val (.ref ab), .val (.int (1 : Int32))]) (S' := [(.ref ar), (.int (1 : Int32))]) rfl ?_
  refine Run.alen hK Aa (by decide +kernel) ?_
  refine Run.icmp hK (cd := .ge) (o := 18) (by decide +kernel) (by decide) (pc' := 29) rfl (fun q => by replace q := (h_ge _ _).1 q; exact absurd q (by decide)) (fun _ => ?_)
  refine Run.pure hK (seg := [(14, .aload_n 1, 1), (15, .iload_n 2, 1), (16, .aload_n 0, 1), (17, .iload_n 2, 1)]) (by decide +kernel) (pc' := 18) (L' := #[.val (.ref ar), .val (.ref ab), .val (.int (1 : Int32))]) (S' := [(.int (1 : Int32)), (.ref ar), (.int (1 : Int32)), (.ref ab)]) rfl ?_
  refine Run.aalv hK (v := (.ref e2)) Aa ⟨by decide, by decide⟩ rfl (by decide +kernel) ?_
  refine Run.static hK (index := 37) (y := (⟨"java/util/Objects", "requireNonNull", "(Ljava/lang/Object;)Ljava/lang/Object;"⟩ : MethodName)) (Wt := 2) (kc := 0) (ks := 0) (hw _ (List.mem_of_getElem? (i := 300) rfl)) (hw _ (List.mem_of_getElem? (i := 256) rfl)) (hw _ (List.mem_of_getElem? (i := 39) rfl)) (hw _ (List.mem_of_getElem? (i := 257) rfl)) (by decide) (W' := []) (fun _ q => nomatch q) (Ctr.cal (c_rn1 G e2 hs0) (hw _ (List.mem_of_getElem? (i := 257) rfl)) (hw _ (List.mem_of_getElem? (i := 39) rfl)) (by decide) (by decide)) rfl (argsL := [(.ref e2)]) (rest := [(.int (1 : Int32)), (.ref ab)]) (lenOf pd_rn1 rfl) rfl (Nat.le_of_ble_eq_true rfl) (by decide +kernel) (by decide) (by decide) (fun vr1 hr1 qr1 nr1 => ?_)
  obtain ⟨rfl, rfl⟩ := qr1
  have S1 : Sto Z hr1 ab (.ref e2) := by obtain ⟨c0, a1, a2, -⟩ := B0; exact Sto.ofV a1 a2 Ob (Ins.of_exa XI2 (hw _ (List.mem_of_getElem? (i := 166) rfl)))
  refine Run.ast hK B0 ⟨by decide, by decide⟩ S1 (by rw [zb]; exact hO.1) (sfA B0 (by decide)) (by decide +kernel) (fun hs1 Ws1 B1 => ?_)
  replace Aa := Aa.other Ws1 nb
  have K2 := K1.wr Ws1 (Or.inl (List.mem_singleton.mpr rfl))
  replace XI1 := XI1.wr Ws1
  replace XI2 := XI2.wr Ws1
  replace XI3 := XI3.wr Ws1
  refine Run.pure hK (seg := [(23, .iinc 2 1, 3), (26, .goto (-18), 3)]) (by decide +kernel) (pc' := 8) (L' := #[.val (.ref ar), .val (.ref ab), .val (.int ((1 : Int32) + (1 : Int32)))]) (S' := []) rfl ?_
  rw [show (1 : Int32) + (1 : Int32) = (2 : Int32) from rfl]
  refine Run.pure hK (seg := [(8, .iload_n 2, 1), (9, .aload_n 0, 1)]) (by decide +kernel) (pc' := 10) (L' := #[.val (.ref ar), .val (.ref ab), .val (.int (2 : Int32))]) (S' := [(.ref ar), (.int (2 : Int32))]) rfl ?_
  refine Run.alen hK Aa (by decide +kernel) ?_
  refine Run.icmp hK (cd := .ge) (o := 18) (by decide +kernel) (by decide) (pc' := 29) rfl (fun q => by replace q := (h_ge _ _).1 q; exact absurd q (by decide)) (fun _ => ?_)
  refine Run.pure hK (seg := [(14, .aload_n 1, 1), (15, .iload_n 2, 1), (16, .aload_n 0, 1), (17, .iload_n 2, 1)]) (by decide +kernel) (pc' := 18) (L' := #[.val (.ref ar), .val (.ref ab), .val (.int (2 : Int32))]) (S' := [(.int (2 : Int32)), (.ref ar), (.int (2 : Int32)), (.ref ab)]) rfl ?_
  refine Run.aalv hK (v := (.ref e3)) Aa ⟨by decide, by decide⟩ rfl (by decide +kernel) ?_
  refine Run.static hK (index := 37) (y := (⟨"java/util/Objects", "requireNonNull", "(Ljava/lang/Object;)Ljava/lang/Object;"⟩ : MethodName)) (Wt := 2) (kc := 0) (ks := 0) (hw _ (List.mem_of_getElem? (i := 300) rfl)) (hw _ (List.mem_of_getElem? (i := 256) rfl)) (hw _ (List.mem_of_getElem? (i := 39) rfl)) (hw _ (List.mem_of_getElem? (i := 257) rfl)) (by decide) (W' := []) (fun _ q => nomatch q) (Ctr.cal (c_rn1 G e3 hs1) (hw _ (List.mem_of_getElem? (i := 257) rfl)) (hw _ (List.mem_of_getElem? (i := 39) rfl)) (by decide) (by decide)) rfl (argsL := [(.ref e3)]) (rest := [(.int (2 : Int32)), (.ref ab)]) (lenOf pd_rn1 rfl) rfl (Nat.le_of_ble_eq_true rfl) (by decide +kernel) (by decide) (by decide) (fun vr2 hr2 qr2 nr2 => ?_)
  obtain ⟨rfl, rfl⟩ := qr2
  have S2 : Sto Z hr2 ab (.ref e3) := by obtain ⟨c0, a1, a2, -⟩ := B1; exact Sto.ofV a1 a2 Ob (Ins.of_exa XI3 (hw _ (List.mem_of_getElem? (i := 166) rfl)))
  refine Run.ast hK B1 ⟨by decide, by decide⟩ S2 (by rw [zb]; exact hO.1) (sfA B1 (by decide)) (by decide +kernel) (fun hs2 Ws2 B2 => ?_)
  replace Aa := Aa.other Ws2 nb
  have K3 := K2.wr Ws2 (Or.inl (List.mem_singleton.mpr rfl))
  replace XI1 := XI1.wr Ws2
  replace XI2 := XI2.wr Ws2
  replace XI3 := XI3.wr Ws2
  refine Run.pure hK (seg := [(23, .iinc 2 1, 3), (26, .goto (-18), 3)]) (by decide +kernel) (pc' := 8) (L' := #[.val (.ref ar), .val (.ref ab), .val (.int ((2 : Int32) + (1 : Int32)))]) (S' := []) rfl ?_
  rw [show (2 : Int32) + (1 : Int32) = (3 : Int32) from rfl]
  refine Run.pure hK (seg := [(8, .iload_n 2, 1), (9, .aload_n 0, 1)]) (by decide +kernel) (pc' := 10) (L' := #[.val (.ref ar), .val (.ref ab), .val (.int (3 : Int32))]) (S' := [(.ref ar), (.int (3 : Int32))]) rfl ?_
  refine Run.alen hK Aa (by decide +kernel) ?_
  refine Run.icmp hK (cd := .ge) (o := 18) (by decide +kernel) (by decide) (pc' := 29) rfl (fun _ => ?_) (fun q => by replace q := (h_ge _ _).2 q; exact absurd q (by decide))
  refine Run.new hK (index := 12) (C := "java/util/ImmutableCollections$ListN") (n := 2) (hw _ (List.mem_of_getElem? (i := 195) rfl)) (hw _ (List.mem_of_getElem? (i := 301) rfl)) (hw _ (List.mem_of_getElem? (i := 72) rfl)) (by decide +kernel) (by decide) (by decide) (fun hp Ep Xp Dp => ?_)
  obtain ⟨ap, zp⟩ : ∃ z, z = hs2.size := ⟨_, rfl⟩
  rw [← zp]
  rw [← zp] at Xp Dp
  refine Run.pure hK (seg := [(32, .dup, 1), (33, .aload_n 1, 1), (34, .iconst 0, 1)]) (by decide +kernel) (pc' := 35) (L' := #[.val (.ref ar), .val (.ref ab), .val (.int (3 : Int32))]) (S' := [(.int (0 : Int32)), (.ref ab), (.ref ap), (.ref ap)]) rfl ?_
  refine Run.specialN hK (index := 43) (y := (⟨"java/util/ImmutableCollections$ListN", "<init>", "([Ljava/lang/Object;Z)V"⟩ : MethodName)) (Wt := 1) (kc := 0) (ks := 0) rfl (hw _ (List.mem_of_getElem? (i := 302) rfl)) (hw _ (List.mem_of_getElem? (i := 303) rfl)) (hw _ (List.mem_of_getElem? (i := 305) rfl)) (by decide) (a := ap) (W' := []) (fun _ q => nomatch q) (Ctr.cal (c_ln G ap ab hp (by rw [zp]; exact Nat.le_trans hO.1 K3.1) Xp (Dp (Or.inr (hw _ (List.mem_of_getElem? (i := 75) rfl))) (ty := (.array (.object "java/lang/Object"))) (by decide)) (Dp (Or.inr (hw _ (List.mem_of_getElem? (i := 311) rfl))) (ty := .boolean) (by decide))) (hw _ (List.mem_of_getElem? (i := 305) rfl)) (hw _ (List.mem_of_getElem? (i := 72) rfl)) (by decide) (by decide)) rfl (argsL := [(.ref ab), (.int (0 : Int32))]) (rest := [(.ref ap)]) (lenOf pd_ln rfl) rfl (Nat.le_of_ble_eq_true rfl) (by decide +kernel) (by decide) (by decide) (fun vi hi qi ni => ?_)
  obtain ⟨rfl, Xq, Fq, Kq⟩ := qi
  have nap : ab ∉ [ap] := fun z => absurd B2.lt (by rw [List.mem_singleton.mp z, zp]; exact Nat.lt_irrefl _)
  have T1 : Ext h hs2 := ext_keep (Ext.rf) K3 (fun x hx => by cases List.mem_singleton.mp hx; rw [zb]; exact Nat.le_refl _)
  have T2 : Ext hs2 hi := ext_keep Ep Kq (fun x hx => by cases List.mem_singleton.mp hx; rw [zp]; exact Nat.le_refl _)
  exact Run.retw hK (i := .areturn) rfl (Or.inr (Or.inr (Or.inr (Or.inr ⟨rfl, rfl, rfl⟩)))) (by decide +kernel) (by decide) (by decide) ⟨ap, rfl, Or.inr ⟨Xq, ab, kb, _, Fq, (B2.ext Ep).keep Kq nap⟩, Ext.tr T1 T2⟩
set_option maxRecDepth 65536 in
set_option maxHeartbeats 40000000 in
theorem c_ov1 {l : Launch} {Z : State} {a0 : Array Value} {z0 : Int32} {fm : Value} (G : Env1 Z a0 z0 fm) (ar : Addr) {k : ClassId} (e1 : Addr) {N1 E0 e0 EM mr : Addr} {k1 k2 : ClassId} (LX : LF Z N1 E0 e0 EM mr k1 k2) (h : Heap) (Aa : Arv Z h ar k (.object "java/lang/Object") (1 : Int32) (Rv [e1]) .null) (XI1 : Exa Z h e1 "java/lang/Integer") : Ctr Z consts_1 false l [] (⟨"java/util/List", "of", "([Ljava/lang/Object;)Ljava/util/List;"⟩ : MethodName) jdk_40_method_47_code 2 (some (.object "java/util/List")) ({ frames := 6, cells := 2, slots := 5, locals := 92 } : Room) #[(.ref ar)] h [] (fun v h' => ∃ p, v = some (.ref p) ∧ Pl Z h' p EM (1 : Int32) ∧ Ext h h') := by
  obtain ⟨hw, hEL, O2, P5, O4⟩ := id G
  refine Ctr.of_run (a0 := a0) (L0 := #[.val (.ref ar), .unset]) (plainFor_of_name pn_lst) hEL (by first | (simp [argsToLocals, Value.category, maxLocals]; done) | rfl) (fun K hK => ?_)
  obtain ⟨SD, AD, SE, XE, FE, AE, SM, XM, MI⟩ := id LX
  refine Run.old (fun hO => ?_)
  refine Run.pure hK (seg := [(0, .aload_n 0, 1)]) (by decide +kernel) (pc' := 1) (L' := #[.val (.ref ar), .unset]) (S' := [(.ref ar)]) rfl ?_
  refine Run.alen hK Aa (by decide +kernel) ?_
  refine Run.tswI hK (dflt := 57) (low := 0) (high := 2) (offs := #[26, 32, 43]) (ln := 26) (by decide +kernel) (by decide) (o := 32) rfl (by decide) (pc' := 34) rfl ?_
  refine Run.new hK (index := 96) (C := "java/util/ImmutableCollections$List12") (n := 2) (hw _ (List.mem_of_getElem? (i := 234) rfl)) (hw _ (List.mem_of_getElem? (i := 235) rfl)) (hw _ (List.mem_of_getElem? (i := 236) rfl)) (by decide +kernel) (by decide) (by decide) (fun hp Ep Xp Dp => ?_)
  obtain ⟨ap, zp⟩ : ∃ z, z = h.size := ⟨_, rfl⟩
  rw [← zp]
  rw [← zp] at Xp Dp
  refine Run.pure hK (seg := [(37, .dup, 1), (38, .aload_n 0, 1), (39, .iconst 0, 1)]) (by decide +kernel) (pc' := 40) (L' := #[.val (.ref ar), .unset]) (S' := [(.int (0 : Int32)), (.ref ar), (.ref ap), (.ref ap)]) rfl ?_
  refine Run.aalv hK (v := (.ref e1)) (Aa.ext Ep) ⟨by decide, by decide⟩ rfl (by decide +kernel) ?_
  refine Run.special hK (index := 98) (y := (⟨"java/util/ImmutableCollections$List12", "<init>", "(Ljava/lang/Object;)V"⟩ : MethodName)) (Wt := 1) (kc := 0) (ks := 0) rfl (hw _ (List.mem_of_getElem? (i := 237) rfl)) (hw _ (List.mem_of_getElem? (i := 238) rfl)) (hw _ (List.mem_of_getElem? (i := 240) rfl)) (by decide) (a := ap) (W' := []) (fun _ q => nomatch q) (Ctr.cal (c_l1 G ap e1 LX hp (by rw [zp]; exact hO.1) Xp (Dp (Or.inr (hw _ (List.mem_of_getElem? (i := 259) rfl))) (ty := .object "java/lang/Object") (by decide)) (Dp (Or.inr (hw _ (List.mem_of_getElem? (i := 262) rfl))) (ty := .object "java/lang/Object") (by decide))) (hw _ (List.mem_of_getElem? (i := 240) rfl)) (hw _ (List.mem_of_getElem? (i := 236) rfl)) (by decide) (by decide)) rfl (argsL := [(.ref e1)]) (rest := [(.ref ap)]) (lenOf pd_l1 rfl) rfl (Nat.le_of_ble_eq_true rfl) (by decide +kernel) (by decide) (by decide) (fun vi hi qi ni => ?_)
  obtain ⟨rfl, Xq, Fq, Kq⟩ := qi
  exact Run.retw hK (i := .areturn) rfl (Or.inr (Or.inr (Or.inr (Or.inr ⟨rfl, rfl, rfl⟩)))) (by decide +kernel) (by decide) (by decide) ⟨ap, rfl, Or.inl ⟨Xq, _, Fq, (if_pos rfl).symm⟩, ext_keep Ep Kq (fun x hx => by cases List.mem_singleton.mp hx; rw [zp]; exact Nat.le_refl _)⟩
set_option maxRecDepth 65536 in
set_option maxHeartbeats 40000000 in
theorem c_ov2 {l : Launch} {Z : State} {a0 : Array Value} {z0 : Int32} {fm : Value} (G : Env1 Z a0 z0 fm) (ar : Addr) {k : ClassId} (e1 e2 : Addr) {N1 E0 e0 EM mr : Addr} {k1 k2 : ClassId} (LX : LF Z N1 E0 e0 EM mr k1 k2) (h : Heap) (Aa : Arv Z h ar k (.object "java/lang/Object") (2 : Int32) (Rv [e1, e2]) .null) (XI1 : Exa Z h e1 "java/lang/Integer") (XI2 : Exa Z h e2 "java/lang/Integer") : Ctr Z consts_1 false l [] (⟨"java/util/List", "of", "([Ljava/lang/Object;)Ljava/util/List;"⟩ : MethodName) jdk_40_method_47_code 2 (some (.object "java/util/List")) ({ frames := 6, cells := 2, slots := 5, locals := 92 } : Room) #[(.ref ar)] h [] (fun v h' => ∃ p, v = some (.ref p) ∧ Pl Z h' p EM (2 : Int32) ∧ Ext h h') := by
  obtain ⟨hw, hEL, O2, P5, O4⟩ := id G
  refine Ctr.of_run (a0 := a0) (L0 := #[.val (.ref ar), .unset]) (plainFor_of_name pn_lst) hEL (by first | (simp [argsToLocals, Value.category, maxLocals]; done) | rfl) (fun K hK => ?_)
  obtain ⟨SD, AD, SE, XE, FE, AE, SM, XM, MI⟩ := id LX
  refine Run.old (fun hO => ?_)
  refine Run.pure hK (seg := [(0, .aload_n 0, 1)]) (by decide +kernel) (pc' := 1) (L' := #[.val (.ref ar), .unset]) (S' := [(.ref ar)]) rfl ?_
  refine Run.alen hK Aa (by decide +kernel) ?_
  refine Run.tswI hK (dflt := 57) (low := 0) (high := 2) (offs := #[26, 32, 43]) (ln := 26) (by decide +kernel) (by decide) (o := 43) rfl (by decide) (pc' := 45) rfl ?_
  refine Run.new hK (index := 96) (C := "java/util/ImmutableCollections$List12") (n := 2) (hw _ (List.mem_of_getElem? (i := 234) rfl)) (hw _ (List.mem_of_getElem? (i := 235) rfl)) (hw _ (List.mem_of_getElem? (i := 236) rfl)) (by decide +kernel) (by decide) (by decide) (fun hp Ep Xp Dp => ?_)
  obtain ⟨ap, zp⟩ : ∃ z, z = h.size := ⟨_, rfl⟩
  rw [← zp]
  rw [← zp] at Xp Dp
  refine Run.pure hK (seg := [(48, .dup, 1), (49, .aload_n 0, 1), (50, .iconst 0, 1)]) (by decide +kernel) (pc' := 51) (L' := #[.val (.ref ar), .unset]) (S' := [(.int (0 : Int32)), (.ref ar), (.ref ap), (.ref ap)]) rfl ?_
  refine Run.aalv hK (v := (.ref e1)) (Aa.ext Ep) ⟨by decide, by decide⟩ rfl (by decide +kernel) ?_
  refine Run.pure hK (seg := [(52, .aload_n 0, 1), (53, .iconst 1, 1)]) (by decide +kernel) (pc' := 54) (L' := #[.val (.ref ar), .unset]) (S' := [(.int (1 : Int32)), (.ref ar), (.ref e1), (.ref ap), (.ref ap)]) rfl ?_
  refine Run.aalv hK (v := (.ref e2)) (Aa.ext Ep) ⟨by decide, by decide⟩ rfl (by decide +kernel) ?_
  refine Run.special hK (index := 100) (y := (⟨"java/util/ImmutableCollections$List12", "<init>", "(Ljava/lang/Object;Ljava/lang/Object;)V"⟩ : MethodName)) (Wt := 1) (kc := 0) (ks := 0) rfl (hw _ (List.mem_of_getElem? (i := 293) rfl)) (hw _ (List.mem_of_getElem? (i := 294) rfl)) (hw _ (List.mem_of_getElem? (i := 295) rfl)) (by decide) (a := ap) (W' := []) (fun _ q => nomatch q) (Ctr.cal (c_l2 G ap e1 e2 LX hp (by rw [zp]; exact hO.1) Xp (Dp (Or.inr (hw _ (List.mem_of_getElem? (i := 259) rfl))) (ty := .object "java/lang/Object") (by decide)) (Dp (Or.inr (hw _ (List.mem_of_getElem? (i := 262) rfl))) (ty := .object "java/lang/Object") (by decide))) (hw _ (List.mem_of_getElem? (i := 295) rfl)) (hw _ (List.mem_of_getElem? (i := 236) rfl)) (by decide) (by decide)) rfl (argsL := [(.ref e1), (.ref e2)]) (rest := [(.ref ap)]) (lenOf pd_l2 rfl) rfl (Nat.le_of_ble_eq_true rfl) (by decide +kernel) (by decide) (by decide) (fun vi hi qi ni => ?_)
  obtain ⟨rfl, Xq, Fq, Kq⟩ := qi
  exact Run.retw hK (i := .areturn) rfl (Or.inr (Or.inr (Or.inr (Or.inr ⟨rfl, rfl, rfl⟩)))) (by decide +kernel) (by decide) (by decide) ⟨ap, rfl, Or.inl ⟨Xq, _, Fq, (if_neg (fun z => XI2.ne (XM.ext hO) (by decide) z)).symm⟩, ext_keep Ep Kq (fun x hx => by cases List.mem_singleton.mp hx; rw [zp]; exact Nat.le_refl _)⟩
set_option maxRecDepth 65536 in
set_option maxHeartbeats 40000000 in
theorem c_ov3 {l : Launch} {Z : State} {a0 : Array Value} {z0 : Int32} {fm : Value} (G : Env1 Z a0 z0 fm) (ar : Addr) {k : ClassId} (e1 e2 e3 : Addr) {N1 E0 e0 EM mr : Addr} {k1 k2 : ClassId} (LX : LF Z N1 E0 e0 EM mr k1 k2) (h : Heap) (Aa : Arv Z h ar k (.object "java/lang/Object") (3 : Int32) (Rv [e1, e2, e3]) .null) (XI1 : Exa Z h e1 "java/lang/Integer") (XI2 : Exa Z h e2 "java/lang/Integer") (XI3 : Exa Z h e3 "java/lang/Integer") : Ctr Z consts_1 false l [] (⟨"java/util/List", "of", "([Ljava/lang/Object;)Ljava/util/List;"⟩ : MethodName) jdk_40_method_47_code 2 (some (.object "java/util/List")) ({ frames := 6, cells := 2, slots := 5, locals := 92 } : Room) #[(.ref ar)] h [] (fun v h' => ∃ p, v = some (.ref p) ∧ Pl Z h' p EM (3 : Int32) ∧ Ext h h') := by
  obtain ⟨hw, hEL, O2, P5, O4⟩ := id G
  refine Ctr.of_run (a0 := a0) (L0 := #[.val (.ref ar), .unset]) (plainFor_of_name pn_lst) hEL (by first | (simp [argsToLocals, Value.category, maxLocals]; done) | rfl) (fun K hK => ?_)
  obtain ⟨SD, AD, SE, XE, FE, AE, SM, XM, MI⟩ := id LX
  refine Run.old (fun hO => ?_)
  refine Run.pure hK (seg := [(0, .aload_n 0, 1)]) (by decide +kernel) (pc' := 1) (L' := #[.val (.ref ar), .unset]) (S' := [(.ref ar)]) rfl ?_
  refine Run.alen hK Aa (by decide +kernel) ?_
  refine Run.tswO hK (dflt := 57) (low := 0) (high := 2) (offs := #[26, 32, 43]) (ln := 26) (by decide +kernel) (by decide) (by decide) (pc' := 59) rfl ?_
  refine Run.pure hK (seg := [(59, .aload_n 0, 1)]) (by decide +kernel) (pc' := 60) (L' := #[.val (.ref ar), .unset]) (S' := [(.ref ar)]) rfl ?_
  refine Run.static hK (index := 109) (y := (⟨"java/util/ImmutableCollections", "listFromArray", "([Ljava/lang/Object;)Ljava/util/List;"⟩ : MethodName)) (Wt := 0) (kc := 2) (ks := 5) (hw _ (List.mem_of_getElem? (i := 296) rfl)) (hw _ (List.mem_of_getElem? (i := 297) rfl)) (hw _ (List.mem_of_getElem? (i := 56) rfl)) (hw _ (List.mem_of_getElem? (i := 298) rfl)) (by decide) (W' := []) (fun _ q => nomatch q) (Ctr.cal (c_lfa G ar e1 e2 e3 LX h Aa XI1 XI2 XI3) (hw _ (List.mem_of_getElem? (i := 298) rfl)) (hw _ (List.mem_of_getElem? (i := 56) rfl)) (by decide) (by decide)) rfl (argsL := [(.ref ar)]) (rest := []) (lenOf pd_ov rfl) rfl (Nat.le_of_ble_eq_true rfl) (by decide +kernel) (by decide) (by decide) (fun v1 h1 q1 n1 => ?_)
  obtain ⟨p1, rfl, q⟩ := q1
  exact Run.retw hK (i := .areturn) rfl (Or.inr (Or.inr (Or.inr (Or.inr ⟨rfl, rfl, rfl⟩)))) (by decide +kernel) (by decide) (by decide) ⟨p1, rfl, q⟩
set_option maxRecDepth 65536 in
set_option maxHeartbeats 40000000 in
theorem c_lc1 {l : Launch} {Z : State} {a0 : Array Value} {z0 : Int32} {fm : Value} (G : Env1 Z a0 z0 fm) (x0 ar : Addr) {k : ClassId} (e1 : Addr) {N1 E0 e0 EM mr : Addr} {k1 k2 : ClassId} (LX : LF Z N1 E0 e0 EM mr k1 k2) (h : Heap) (Al : ALo Z h x0 ar k [e1]) (XI1 : Exa Z h e1 "java/lang/Integer") : Ctr Z consts_1 false l [] (⟨"java/util/ImmutableCollections", "listCopy", "(Ljava/util/Collection;)Ljava/util/List;"⟩ : MethodName) jdk_56_method_3_code 2 (some (.object "java/util/List")) ({ frames := 7, cells := 3, slots := 6, locals := 108 } : Room) #[(.ref x0)] h [] (fun v h' => ∃ p, v = some (.ref p) ∧ Pl Z h' p EM (1 : Int32) ∧ Ext h h') := by
  obtain ⟨hw, hEL, O2, P5, O4⟩ := id G
  refine Ctr.of_run (a0 := a0) (L0 := #[.val (.ref x0), .unset]) (plainFor_of_name pn_imc) hEL (by first | (simp [argsToLocals, Value.category, maxLocals]; done) | rfl) (fun K hK => ?_)
  have X := Al.1
  refine Run.pure hK (seg := [(0, .aload_n 0, 1)]) (by decide +kernel) (pc' := 1) (L' := #[.val (.ref x0), .unset]) (S' := [(.ref x0)]) rfl ?_
  refine Run.instN hK (index := 10) (hw _ (List.mem_of_getElem? (i := 190) rfl)) (ins_no3 (hw _ (List.mem_of_getElem? (i := 191) rfl)) (hw _ (List.mem_of_getElem? (i := 192) rfl)) (hw _ (List.mem_of_getElem? (i := 193) rfl)) (hw _ (List.mem_of_getElem? (i := 194) rfl)) (hw _ (List.mem_of_getElem? (i := 235) rfl)) (by decide) (by decide) (by decide) (by decide) X) X (by decide +kernel) ?_
  refine Run.ifz hK (cd := .ne) (o := 22) (by decide +kernel) (by decide) (pc' := 26) rfl (fun q => by replace q := (h_ne _ _).1 q; exact absurd rfl q) (fun _ => ?_)
  refine Run.pure hK (seg := [(7, .aload_n 0, 1)]) (by decide +kernel) (pc' := 8) (L' := #[.val (.ref x0), .unset]) (S' := [(.ref x0)]) rfl ?_
  refine Run.instN hK (index := 12) (hw _ (List.mem_of_getElem? (i := 195) rfl)) (ins_no3 (hw _ (List.mem_of_getElem? (i := 191) rfl)) (hw _ (List.mem_of_getElem? (i := 192) rfl)) (hw _ (List.mem_of_getElem? (i := 193) rfl)) (hw _ (List.mem_of_getElem? (i := 194) rfl)) (hw _ (List.mem_of_getElem? (i := 301) rfl)) (by decide) (by decide) (by decide) (by decide) X) X (by decide +kernel) ?_
  refine Run.ifz hK (cd := .eq) (o := 20) (by decide +kernel) (by decide) (pc' := 31) rfl (fun _ => ?_) (fun q => by replace q := (h_eq _ _).2 q; exact absurd rfl q)
  refine Run.pure hK (seg := [(31, .aload_n 0, 1)]) (by decide +kernel) (pc' := 32) (L' := #[.val (.ref x0), .unset]) (S' := [(.ref x0)]) rfl ?_
  refine Run.iface hK (index := 20) (count := 1) (y := (⟨"java/util/Collection", "isEmpty", "()Z"⟩ : MethodName)) (z := (⟨"java/util/ArrayList", "isEmpty", "()Z"⟩ : MethodName)) (C := "java/util/ArrayList") (Wt := 0) (kc := 0) (ks := 0) (fun _ _ z => mv z (hw _ (List.mem_of_getElem? (i := 196) rfl))) (fun _ _ z => mv z (hw _ (List.mem_of_getElem? (i := 197) rfl))) (fun _ _ z => mv z (hw _ (List.mem_of_getElem? (i := 198) rfl))) (fun _ _ z => mv z (hw _ (List.mem_of_getElem? (i := 199) rfl))) (fun _ _ z => mv z (hw _ (List.mem_of_getElem? (i := 172) rfl))) (fun _ _ z => mv z (hw _ (List.mem_of_getElem? (i := 173) rfl))) (fun _ _ z => mv z (hw _ (List.mem_of_getElem? (i := 174) rfl))) (fun _ _ z => mv z (hw _ (List.mem_of_getElem? (i := 200) rfl))) (by decide) (a := x0) X (W' := []) (fun _ q => nomatch q) (Ctr.cal (len := 5) (c_ais G x0 ar h Al (by simp) (by simp)) (hw _ (List.mem_of_getElem? (i := 176) rfl)) (hw _ (List.mem_of_getElem? (i := 93) rfl)) (by decide) (by decide)) rfl (argsL := []) (rest := []) (lenOf pd_z rfl) rfl (Nat.le_of_ble_eq_true rfl) (by decide +kernel) (by decide) (by decide) (fun v1 h1 q1 n1 => ?_)
  obtain ⟨rfl, rfl⟩ := q1
  refine Run.ifz hK (cd := .eq) (o := 7) (by decide +kernel) (by decide) (pc' := 44) rfl (fun _ => ?_) (fun q => by replace q := (h_eq _ _).2 q; exact absurd rfl q)
  refine Run.pure hK (seg := [(44, .aload_n 0, 1)]) (by decide +kernel) (pc' := 45) (L' := #[.val (.ref x0), .unset]) (S' := [(.ref x0)]) rfl ?_
  refine Run.iface hK (index := 30) (count := 1) (y := (⟨"java/util/Collection", "toArray", "()[Ljava/lang/Object;"⟩ : MethodName)) (z := (⟨"java/util/ArrayList", "toArray", "()[Ljava/lang/Object;"⟩ : MethodName)) (C := "java/util/ArrayList") (Wt := 0) (kc := 1) (ks := 1) (fun _ _ z => mv z (hw _ (List.mem_of_getElem? (i := 201) rfl))) (fun _ _ z => mv z (hw _ (List.mem_of_getElem? (i := 202) rfl))) (fun _ _ z => mv z (hw _ (List.mem_of_getElem? (i := 203) rfl))) (fun _ _ z => mv z (hw _ (List.mem_of_getElem? (i := 204) rfl))) (fun _ _ z => mv z (hw _ (List.mem_of_getElem? (i := 205) rfl))) (fun _ _ z => mv z (hw _ (List.mem_of_getElem? (i := 206) rfl))) (fun _ _ z => mv z (hw _ (List.mem_of_getElem? (i := 207) rfl))) (fun _ _ z => mv z (hw _ (List.mem_of_getElem? (i := 200) rfl))) (by decide) (a := x0) X (W' := []) (fun _ q => nomatch q) (Ctr.cal (len := 5) (c_ta1 G x0 ar e1 LX h1 Al XI1) (hw _ (List.mem_of_getElem? (i := 208) rfl)) (hw _ (List.mem_of_getElem? (i := 93) rfl)) (by decide) (by decide)) rfl (argsL := []) (rest := []) (lenOf pd_ta rfl) rfl (Nat.le_of_ble_eq_true rfl) (by decide +kernel) (by decide) (by decide) (fun v2 h2 q2 n2 => ?_)
  obtain ⟨b2, kb2, rfl, Ab2, Xb2, E2⟩ := q2
  refine Run.static hK (index := 34) (y := (⟨"java/util/List", "of", "([Ljava/lang/Object;)Ljava/util/List;"⟩ : MethodName)) (Wt := 0) (kc := 2) (ks := 5) (hw _ (List.mem_of_getElem? (i := 231) rfl)) (hw _ (List.mem_of_getElem? (i := 232) rfl)) (hw _ (List.mem_of_getElem? (i := 53) rfl)) (hw _ (List.mem_of_getElem? (i := 233) rfl)) (by decide) (W' := []) (fun _ q => nomatch q) (Ctr.cal (c_ov1 G b2 e1 LX h2 Ab2 (XI1.ext E2)) (hw _ (List.mem_of_getElem? (i := 233) rfl)) (hw _ (List.mem_of_getElem? (i := 53) rfl)) (by decide) (by decide)) rfl (argsL := [(.ref b2)]) (rest := []) (lenOf pd_ov rfl) rfl (Nat.le_of_ble_eq_true rfl) (by decide +kernel) (by decide) (by decide) (fun v3 h3 q3 n3 => ?_)
  obtain ⟨p1, rfl, P1, E3⟩ := q3
  exact Run.retw hK (i := .areturn) rfl (Or.inr (Or.inr (Or.inr (Or.inr ⟨rfl, rfl, rfl⟩)))) (by decide +kernel) (by decide) (by decide) ⟨p1, rfl, P1, Ext.tr E2 E3⟩
set_option maxRecDepth 65536 in
set_option maxHeartbeats 40000000 in
theorem c_cp1 {l : Launch} {Z : State} {a0 : Array Value} {z0 : Int32} {fm : Value} (G : Env1 Z a0 z0 fm) (x0 ar : Addr) {k : ClassId} (e1 : Addr) {N1 E0 e0 EM mr : Addr} {k1 k2 : ClassId} (LX : LF Z N1 E0 e0 EM mr k1 k2) (h : Heap) (Al : ALo Z h x0 ar k [e1]) (XI1 : Exa Z h e1 "java/lang/Integer") : Ctr Z consts_1 false l [] (⟨"java/util/List", "copyOf", "(Ljava/util/Collection;)Ljava/util/List;"⟩ : MethodName) jdk_40_method_48_code 1 (some (.object "java/util/List")) ({ frames := 8, cells := 3, slots := 6, locals := 124 } : Room) #[(.ref x0)] h [] (fun v h' => ∃ p, v = some (.ref p) ∧ Pl Z h' p EM (1 : Int32) ∧ Ext h h') := by
  obtain ⟨hw, hEL, O2, P5, O4⟩ := id G
  refine Ctr.of_run (a0 := a0) (L0 := #[.val (.ref x0)]) (plainFor_of_name pn_lst) hEL (by first | (simp [argsToLocals, Value.category, maxLocals]; done) | rfl) (fun K hK => ?_)
  refine Run.pure hK (seg := [(0, .aload_n 0, 1)]) (by decide +kernel) (pc' := 1) (L' := #[.val (.ref x0)]) (S' := [(.ref x0)]) rfl ?_
  refine Run.static hK (index := 112) (y := (⟨"java/util/ImmutableCollections", "listCopy", "(Ljava/util/Collection;)Ljava/util/List;"⟩ : MethodName)) (Wt := 0) (kc := 3) (ks := 6) (hw _ (List.mem_of_getElem? (i := 187) rfl)) (hw _ (List.mem_of_getElem? (i := 188) rfl)) (hw _ (List.mem_of_getElem? (i := 56) rfl)) (hw _ (List.mem_of_getElem? (i := 189) rfl)) (by decide) (W' := []) (fun _ q => nomatch q) (Ctr.cal (c_lc1 G x0 ar e1 LX h Al XI1) (hw _ (List.mem_of_getElem? (i := 189) rfl)) (hw _ (List.mem_of_getElem? (i := 56) rfl)) (by decide) (by decide)) rfl (argsL := [(.ref x0)]) (rest := []) (lenOf pd_lc rfl) rfl (Nat.le_of_ble_eq_true rfl) (by decide +kernel) (by decide) (by decide) (fun v1 h1 q1 n1 => ?_)
  obtain ⟨p1, rfl, q⟩ := q1
  exact Run.retw hK (i := .areturn) rfl (Or.inr (Or.inr (Or.inr (Or.inr ⟨rfl, rfl, rfl⟩)))) (by decide +kernel) (by decide) (by decide) ⟨p1, rfl, q⟩
set_option maxRecDepth 65536 in
set_option maxHeartbeats 40000000 in
theorem c_lc2 {l : Launch} {Z : State} {a0 : Array Value} {z0 : Int32} {fm : Value} (G : Env1 Z a0 z0 fm) (x0 ar : Addr) {k : ClassId} (e1 e2 : Addr) {N1 E0 e0 EM mr : Addr} {k1 k2 : ClassId} (LX : LF Z N1 E0 e0 EM mr k1 k2) (h : Heap) (Al : ALo Z h x0 ar k [e1, e2]) (XI1 : Exa Z h e1 "java/lang/Integer") (XI2 : Exa Z h e2 "java/lang/Integer") : Ctr Z consts_1 false l [] (⟨"java/util/ImmutableCollections", "listCopy", "(Ljava/util/Collection;)Ljava/util/List;"⟩ : MethodName) jdk_56_method_3_code 2 (some (.object "java/util/List")) ({ frames := 7, cells := 3, slots := 7, locals := 108 } : Room) #[(.ref x0)] h [] (fun v h' => ∃ p, v = some (.ref p) ∧ Pl Z h' p EM (2 : Int32) ∧ Ext h h') := by
  obtain ⟨hw, hEL, O2, P5, O4⟩ := id G
  refine Ctr.of_run (a0 := a0) (L0 := #[.val (.ref x0), .unset]) (plainFor_of_name pn_imc) hEL (by first | (simp [argsToLocals, Value.category, maxLocals]; done) | rfl) (fun K hK => ?_)
  have X := Al.1
  refine Run.pure hK (seg := [(0, .aload_n 0, 1)]) (by decide +kernel) (pc' := 1) (L' := #[.val (.ref x0), .unset]) (S' := [(.ref x0)]) rfl ?_
  refine Run.instN hK (index := 10) (hw _ (List.mem_of_getElem? (i := 190) rfl)) (ins_no3 (hw _ (List.mem_of_getElem? (i := 191) rfl)) (hw _ (List.mem_of_getElem? (i := 192) rfl)) (hw _ (List.mem_of_getElem? (i := 193) rfl)) (hw _ (List.mem_of_getElem? (i := 194) rfl)) (hw _ (List.mem_of_getElem? (i := 235) rfl)) (by decide) (by decide) (by decide) (by decide) X) X (by decide +kernel) ?_
  refine Run.ifz hK (cd := .ne) (o := 22) (by decide +kernel) (by decide) (pc' := 26) rfl (fun q => by replace q := (h_ne _ _).1 q; exact absurd rfl q) (fun _ => ?_)
  refine Run.pure hK (seg := [(7, .aload_n 0, 1)]) (by decide +kernel) (pc' := 8) (L' := #[.val (.ref x0), .unset]) (S' := [(.ref x0)]) rfl ?_
  refine Run.instN hK (index := 12) (hw _ (List.mem_of_getElem? (i := 195) rfl)) (ins_no3 (hw _ (List.mem_of_getElem? (i := 191) rfl)) (hw _ (List.mem_of_getElem? (i := 192) rfl)) (hw _ (List.mem_of_getElem? (i := 193) rfl)) (hw _ (List.mem_of_getElem? (i := 194) rfl)) (hw _ (List.mem_of_getElem? (i := 301) rfl)) (by decide) (by decide) (by decide) (by decide) X) X (by decide +kernel) ?_
  refine Run.ifz hK (cd := .eq) (o := 20) (by decide +kernel) (by decide) (pc' := 31) rfl (fun _ => ?_) (fun q => by replace q := (h_eq _ _).2 q; exact absurd rfl q)
  refine Run.pure hK (seg := [(31, .aload_n 0, 1)]) (by decide +kernel) (pc' := 32) (L' := #[.val (.ref x0), .unset]) (S' := [(.ref x0)]) rfl ?_
  refine Run.iface hK (index := 20) (count := 1) (y := (⟨"java/util/Collection", "isEmpty", "()Z"⟩ : MethodName)) (z := (⟨"java/util/ArrayList", "isEmpty", "()Z"⟩ : MethodName)) (C := "java/util/ArrayList") (Wt := 0) (kc := 0) (ks := 0) (fun _ _ z => mv z (hw _ (List.mem_of_getElem? (i := 196) rfl))) (fun _ _ z => mv z (hw _ (List.mem_of_getElem? (i := 197) rfl))) (fun _ _ z => mv z (hw _ (List.mem_of_getElem? (i := 198) rfl))) (fun _ _ z => mv z (hw _ (List.mem_of_getElem? (i := 199) rfl))) (fun _ _ z => mv z (hw _ (List.mem_of_getElem? (i := 172) rfl))) (fun _ _ z => mv z (hw _ (List.mem_of_getElem? (i := 173) rfl))) (fun _ _ z => mv z (hw _ (List.mem_of_getElem? (i := 174) rfl))) (fun _ _ z => mv z (hw _ (List.mem_of_getElem? (i := 200) rfl))) (by decide) (a := x0) X (W' := []) (fun _ q => nomatch q) (Ctr.cal (len := 5) (c_ais G x0 ar h Al (by simp) (by simp)) (hw _ (List.mem_of_getElem? (i := 176) rfl)) (hw _ (List.mem_of_getElem? (i := 93) rfl)) (by decide) (by decide)) rfl (argsL := []) (rest := []) (lenOf pd_z rfl) rfl (Nat.le_of_ble_eq_true rfl) (by decide +kernel) (by decide) (by decide) (fun v1 h1 q1 n1 => ?_)
  obtain ⟨rfl, rfl⟩ := q1
  refine Run.ifz hK (cd := .eq) (o := 7) (by decide +kernel) (by decide) (pc' := 44) rfl (fun _ => ?_) (fun q => by replace q := (h_eq _ _).2 q; exact absurd rfl q)
  refine Run.pure hK (seg := [(44, .aload_n 0, 1)]) (by decide +kernel) (pc' := 45) (L' := #[.val (.ref x0), .unset]) (S' := [(.ref x0)]) rfl ?_
  refine Run.iface hK (index := 30) (count := 1) (y := (⟨"java/util/Collection", "toArray", "()[Ljava/lang/Object;"⟩ : MethodName)) (z := (⟨"java/util/ArrayList", "toArray", "()[Ljava/lang/Object;"⟩ : MethodName)) (C := "java/util/ArrayList") (Wt := 0) (kc := 1) (ks := 2) (fun _ _ z => mv z (hw _ (List.mem_of_getElem? (i := 201) rfl))) (fun _ _ z => mv z (hw _ (List.mem_of_getElem? (i := 202) rfl))) (fun _ _ z => mv z (hw _ (List.mem_of_getElem? (i := 203) rfl))) (fun _ _ z => mv z (hw _ (List.mem_of_getElem? (i := 204) rfl))) (fun _ _ z => mv z (hw _ (List.mem_of_getElem? (i := 205) rfl))) (fun _ _ z => mv z (hw _ (List.mem_of_getElem? (i := 206) rfl))) (fun _ _ z => mv z (hw _ (List.mem_of_getElem? (i := 207) rfl))) (fun _ _ z => mv z (hw _ (List.mem_of_getElem? (i := 200) rfl))) (by decide) (a := x0) X (W' := []) (fun _ q => nomatch q) (Ctr.cal (len := 5) (c_ta2 G x0 ar e1 e2 LX h1 Al XI1 XI2) (hw _ (List.mem_of_getElem? (i := 208) rfl)) (hw _ (List.mem_of_getElem? (i := 93) rfl)) (by decide) (by decide)) rfl (argsL := []) (rest := []) (lenOf pd_ta rfl) rfl (Nat.le_of_ble_eq_true rfl) (by decide +kernel) (by decide) (by decide) (fun v2 h2 q2 n2 => ?_)
  obtain ⟨b2, kb2, rfl, Ab2, Xb2, E2⟩ := q2
  refine Run.static hK (index := 34) (y := (⟨"java/util/List", "of", "([Ljava/lang/Object;)Ljava/util/List;"⟩ : MethodName)) (Wt := 0) (kc := 2) (ks := 5) (hw _ (List.mem_of_getElem? (i := 231) rfl)) (hw _ (List.mem_of_getElem? (i := 232) rfl)) (hw _ (List.mem_of_getElem? (i := 53) rfl)) (hw _ (List.mem_of_getElem? (i := 233) rfl)) (by decide) (W' := []) (fun _ q => nomatch q) (Ctr.cal (c_ov2 G b2 e1 e2 LX h2 Ab2 (XI1.ext E2) (XI2.ext E2)) (hw _ (List.mem_of_getElem? (i := 233) rfl)) (hw _ (List.mem_of_getElem? (i := 53) rfl)) (by decide) (by decide)) rfl (argsL := [(.ref b2)]) (rest := []) (lenOf pd_ov rfl) rfl (Nat.le_of_ble_eq_true rfl) (by decide +kernel) (by decide) (by decide) (fun v3 h3 q3 n3 => ?_)
  obtain ⟨p1, rfl, P1, E3⟩ := q3
  exact Run.retw hK (i := .areturn) rfl (Or.inr (Or.inr (Or.inr (Or.inr ⟨rfl, rfl, rfl⟩)))) (by decide +kernel) (by decide) (by decide) ⟨p1, rfl, P1, Ext.tr E2 E3⟩
set_option maxRecDepth 65536 in
set_option maxHeartbeats 40000000 in
theorem c_cp2 {l : Launch} {Z : State} {a0 : Array Value} {z0 : Int32} {fm : Value} (G : Env1 Z a0 z0 fm) (x0 ar : Addr) {k : ClassId} (e1 e2 : Addr) {N1 E0 e0 EM mr : Addr} {k1 k2 : ClassId} (LX : LF Z N1 E0 e0 EM mr k1 k2) (h : Heap) (Al : ALo Z h x0 ar k [e1, e2]) (XI1 : Exa Z h e1 "java/lang/Integer") (XI2 : Exa Z h e2 "java/lang/Integer") : Ctr Z consts_1 false l [] (⟨"java/util/List", "copyOf", "(Ljava/util/Collection;)Ljava/util/List;"⟩ : MethodName) jdk_40_method_48_code 1 (some (.object "java/util/List")) ({ frames := 8, cells := 3, slots := 7, locals := 124 } : Room) #[(.ref x0)] h [] (fun v h' => ∃ p, v = some (.ref p) ∧ Pl Z h' p EM (2 : Int32) ∧ Ext h h') := by
  obtain ⟨hw, hEL, O2, P5, O4⟩ := id G
  refine Ctr.of_run (a0 := a0) (L0 := #[.val (.ref x0)]) (plainFor_of_name pn_lst) hEL (by first | (simp [argsToLocals, Value.category, maxLocals]; done) | rfl) (fun K hK => ?_)
  refine Run.pure hK (seg := [(0, .aload_n 0, 1)]) (by decide +kernel) (pc' := 1) (L' := #[.val (.ref x0)]) (S' := [(.ref x0)]) rfl ?_
  refine Run.static hK (index := 112) (y := (⟨"java/util/ImmutableCollections", "listCopy", "(Ljava/util/Collection;)Ljava/util/List;"⟩ : MethodName)) (Wt := 0) (kc := 3) (ks := 7) (hw _ (List.mem_of_getElem? (i := 187) rfl)) (hw _ (List.mem_of_getElem? (i := 188) rfl)) (hw _ (List.mem_of_getElem? (i := 56) rfl)) (hw _ (List.mem_of_getElem? (i := 189) rfl)) (by decide) (W' := []) (fun _ q => nomatch q) (Ctr.cal (c_lc2 G x0 ar e1 e2 LX h Al XI1 XI2) (hw _ (List.mem_of_getElem? (i := 189) rfl)) (hw _ (List.mem_of_getElem? (i := 56) rfl)) (by decide) (by decide)) rfl (argsL := [(.ref x0)]) (rest := []) (lenOf pd_lc rfl) rfl (Nat.le_of_ble_eq_true rfl) (by decide +kernel) (by decide) (by decide) (fun v1 h1 q1 n1 => ?_)
  obtain ⟨p1, rfl, q⟩ := q1
  exact Run.retw hK (i := .areturn) rfl (Or.inr (Or.inr (Or.inr (Or.inr ⟨rfl, rfl, rfl⟩)))) (by decide +kernel) (by decide) (by decide) ⟨p1, rfl, q⟩
set_option maxRecDepth 65536 in
set_option maxHeartbeats 40000000 in
theorem c_lc3 {l : Launch} {Z : State} {a0 : Array Value} {z0 : Int32} {fm : Value} (G : Env1 Z a0 z0 fm) (x0 ar : Addr) {k : ClassId} (e1 e2 e3 : Addr) {N1 E0 e0 EM mr : Addr} {k1 k2 : ClassId} (LX : LF Z N1 E0 e0 EM mr k1 k2) (h : Heap) (Al : ALo Z h x0 ar k [e1, e2, e3]) (XI1 : Exa Z h e1 "java/lang/Integer") (XI2 : Exa Z h e2 "java/lang/Integer") (XI3 : Exa Z h e3 "java/lang/Integer") : Ctr Z consts_1 false l [] (⟨"java/util/ImmutableCollections", "listCopy", "(Ljava/util/Collection;)Ljava/util/List;"⟩ : MethodName) jdk_56_method_3_code 2 (some (.object "java/util/List")) ({ frames := 7, cells := 3, slots := 8, locals := 108 } : Room) #[(.ref x0)] h [] (fun v h' => ∃ p, v = some (.ref p) ∧ Pl Z h' p EM (3 : Int32) ∧ Ext h h') := by
  obtain ⟨hw, hEL, O2, P5, O4⟩ := id G
  refine Ctr.of_run (a0 := a0) (L0 := #[.val (.ref x0), .unset]) (plainFor_of_name pn_imc) hEL (by first | (simp [argsToLocals, Value.category, maxLocals]; done) | rfl) (fun K hK => ?_)
  have X := Al.1
  refine Run.pure hK (seg := [(0, .aload_n 0, 1)]) (by decide +kernel) (pc' := 1) (L' := #[.val (.ref x0), .unset]) (S' := [(.ref x0)]) rfl ?_
  refine Run.instN hK (index := 10) (hw _ (List.mem_of_getElem? (i := 190) rfl)) (ins_no3 (hw _ (List.mem_of_getElem? (i := 191) rfl)) (hw _ (List.mem_of_getElem? (i := 192) rfl)) (hw _ (List.mem_of_getElem? (i := 193) rfl)) (hw _ (List.mem_of_getElem? (i := 194) rfl)) (hw _ (List.mem_of_getElem? (i := 235) rfl)) (by decide) (by decide) (by decide) (by decide) X) X (by decide +kernel) ?_
  refine Run.ifz hK (cd := .ne) (o := 22) (by decide +kernel) (by decide) (pc' := 26) rfl (fun q => by replace q := (h_ne _ _).1 q; exact absurd rfl q) (fun _ => ?_)
  refine Run.pure hK (seg := [(7, .aload_n 0, 1)]) (by decide +kernel) (pc' := 8) (L' := #[.val (.ref x0), .unset]) (S' := [(.ref x0)]) rfl ?_
  refine Run.instN hK (index := 12) (hw _ (List.mem_of_getElem? (i := 195) rfl)) (ins_no3 (hw _ (List.mem_of_getElem? (i := 191) rfl)) (hw _ (List.mem_of_getElem? (i := 192) rfl)) (hw _ (List.mem_of_getElem? (i := 193) rfl)) (hw _ (List.mem_of_getElem? (i := 194) rfl)) (hw _ (List.mem_of_getElem? (i := 301) rfl)) (by decide) (by decide) (by decide) (by decide) X) X (by decide +kernel) ?_
  refine Run.ifz hK (cd := .eq) (o := 20) (by decide +kernel) (by decide) (pc' := 31) rfl (fun _ => ?_) (fun q => by replace q := (h_eq _ _).2 q; exact absurd rfl q)
  refine Run.pure hK (seg := [(31, .aload_n 0, 1)]) (by decide +kernel) (pc' := 32) (L' := #[.val (.ref x0), .unset]) (S' := [(.ref x0)]) rfl ?_
  refine Run.iface hK (index := 20) (count := 1) (y := (⟨"java/util/Collection", "isEmpty", "()Z"⟩ : MethodName)) (z := (⟨"java/util/ArrayList", "isEmpty", "()Z"⟩ : MethodName)) (C := "java/util/ArrayList") (Wt := 0) (kc := 0) (ks := 0) (fun _ _ z => mv z (hw _ (List.mem_of_getElem? (i := 196) rfl))) (fun _ _ z => mv z (hw _ (List.mem_of_getElem? (i := 197) rfl))) (fun _ _ z => mv z (hw _ (List.mem_of_getElem? (i := 198) rfl))) (fun _ _ z => mv z (hw _ (List.mem_of_getElem? (i := 199) rfl))) (fun _ _ z => mv z (hw _ (List.mem_of_getElem? (i := 172) rfl))) (fun _ _ z => mv z (hw _ (List.mem_of_getElem? (i := 173) rfl))) (fun _ _ z => mv z (hw _ (List.mem_of_getElem? (i := 174) rfl))) (fun _ _ z => mv z (hw _ (List.mem_of_getElem? (i := 200) rfl))) (by decide) (a := x0) X (W' := []) (fun _ q => nomatch q) (Ctr.cal (len := 5) (c_ais G x0 ar h Al (by simp) (by simp)) (hw _ (List.mem_of_getElem? (i := 176) rfl)) (hw _ (List.mem_of_getElem? (i := 93) rfl)) (by decide) (by decide)) rfl (argsL := []) (rest := []) (lenOf pd_z rfl) rfl (Nat.le_of_ble_eq_true rfl) (by decide +kernel) (by decide) (by decide) (fun v1 h1 q1 n1 => ?_)
  obtain ⟨rfl, rfl⟩ := q1
  refine Run.ifz hK (cd := .eq) (o := 7) (by decide +kernel) (by decide) (pc' := 44) rfl (fun _ => ?_) (fun q => by replace q := (h_eq _ _).2 q; exact absurd rfl q)
  refine Run.pure hK (seg := [(44, .aload_n 0, 1)]) (by decide +kernel) (pc' := 45) (L' := #[.val (.ref x0), .unset]) (S' := [(.ref x0)]) rfl ?_
  refine Run.iface hK (index := 30) (count := 1) (y := (⟨"java/util/Collection", "toArray", "()[Ljava/lang/Object;"⟩ : MethodName)) (z := (⟨"java/util/ArrayList", "toArray", "()[Ljava/lang/Object;"⟩ : MethodName)) (C := "java/util/ArrayList") (Wt := 0) (kc := 1) (ks := 3) (fun _ _ z => mv z (hw _ (List.mem_of_getElem? (i := 201) rfl))) (fun _ _ z => mv z (hw _ (List.mem_of_getElem? (i := 202) rfl))) (fun _ _ z => mv z (hw _ (List.mem_of_getElem? (i := 203) rfl))) (fun _ _ z => mv z (hw _ (List.mem_of_getElem? (i := 204) rfl))) (fun _ _ z => mv z (hw _ (List.mem_of_getElem? (i := 205) rfl))) (fun _ _ z => mv z (hw _ (List.mem_of_getElem? (i := 206) rfl))) (fun _ _ z => mv z (hw _ (List.mem_of_getElem? (i := 207) rfl))) (fun _ _ z => mv z (hw _ (List.mem_of_getElem? (i := 200) rfl))) (by decide) (a := x0) X (W' := []) (fun _ q => nomatch q) (Ctr.cal (len := 5) (c_ta3 G x0 ar e1 e2 e3 LX h1 Al XI1 XI2 XI3) (hw _ (List.mem_of_getElem? (i := 208) rfl)) (hw _ (List.mem_of_getElem? (i := 93) rfl)) (by decide) (by decide)) rfl (argsL := []) (rest := []) (lenOf pd_ta rfl) rfl (Nat.le_of_ble_eq_true rfl) (by decide +kernel) (by decide) (by decide) (fun v2 h2 q2 n2 => ?_)
  obtain ⟨b2, kb2, rfl, Ab2, Xb2, E2⟩ := q2
  refine Run.static hK (index := 34) (y := (⟨"java/util/List", "of", "([Ljava/lang/Object;)Ljava/util/List;"⟩ : MethodName)) (Wt := 0) (kc := 2) (ks := 5) (hw _ (List.mem_of_getElem? (i := 231) rfl)) (hw _ (List.mem_of_getElem? (i := 232) rfl)) (hw _ (List.mem_of_getElem? (i := 53) rfl)) (hw _ (List.mem_of_getElem? (i := 233) rfl)) (by decide) (W' := []) (fun _ q => nomatch q) (Ctr.cal (c_ov3 G b2 e1 e2 e3 LX h2 Ab2 (XI1.ext E2) (XI2.ext E2) (XI3.ext E2)) (hw _ (List.mem_of_getElem? (i := 233) rfl)) (hw _ (List.mem_of_getElem? (i := 53) rfl)) (by decide) (by decide)) rfl (argsL := [(.ref b2)]) (rest := []) (lenOf pd_ov rfl) rfl (Nat.le_of_ble_eq_true rfl) (by decide +kernel) (by decide) (by decide) (fun v3 h3 q3 n3 => ?_)
  obtain ⟨p1, rfl, P1, E3⟩ := q3
  exact Run.retw hK (i := .areturn) rfl (Or.inr (Or.inr (Or.inr (Or.inr ⟨rfl, rfl, rfl⟩)))) (by decide +kernel) (by decide) (by decide) ⟨p1, rfl, P1, Ext.tr E2 E3⟩
set_option maxRecDepth 65536 in
set_option maxHeartbeats 40000000 in
theorem c_cp3 {l : Launch} {Z : State} {a0 : Array Value} {z0 : Int32} {fm : Value} (G : Env1 Z a0 z0 fm) (x0 ar : Addr) {k : ClassId} (e1 e2 e3 : Addr) {N1 E0 e0 EM mr : Addr} {k1 k2 : ClassId} (LX : LF Z N1 E0 e0 EM mr k1 k2) (h : Heap) (Al : ALo Z h x0 ar k [e1, e2, e3]) (XI1 : Exa Z h e1 "java/lang/Integer") (XI2 : Exa Z h e2 "java/lang/Integer") (XI3 : Exa Z h e3 "java/lang/Integer") : Ctr Z consts_1 false l [] (⟨"java/util/List", "copyOf", "(Ljava/util/Collection;)Ljava/util/List;"⟩ : MethodName) jdk_40_method_48_code 1 (some (.object "java/util/List")) ({ frames := 8, cells := 3, slots := 8, locals := 124 } : Room) #[(.ref x0)] h [] (fun v h' => ∃ p, v = some (.ref p) ∧ Pl Z h' p EM (3 : Int32) ∧ Ext h h') := by
  obtain ⟨hw, hEL, O2, P5, O4⟩ := id G
  refine Ctr.of_run (a0 := a0) (L0 := #[.val (.ref x0)]) (plainFor_of_name pn_lst) hEL (by first | (simp [argsToLocals, Value.category, maxLocals]; done) | rfl) (fun K hK => ?_)
  refine Run.pure hK (seg := [(0, .aload_n 0, 1)]) (by decide +kernel) (pc' := 1) (L' := #[.val (.ref x0)]) (S' := [(.ref x0)]) rfl ?_
  refine Run.static hK (index := 112) (y := (⟨"java/util/ImmutableCollections", "listCopy", "(Ljava/util/Collection;)Ljava/util/List;"⟩ : MethodName)) (Wt := 0) (kc := 3) (ks := 8) (hw _ (List.mem_of_getElem? (i := 187) rfl)) (hw _ (List.mem_of_getElem? (i := 188) rfl)) (hw _ (List.mem_of_getElem? (i := 56) rfl)) (hw _ (List.mem_of_getElem? (i := 189) rfl)) (by decide) (W' := []) (fun _ q => nomatch q) (Ctr.cal (c_lc3 G x0 ar e1 e2 e3 LX h Al XI1 XI2 XI3) (hw _ (List.mem_of_getElem? (i := 189) rfl)) (hw _ (List.mem_of_getElem? (i := 56) rfl)) (by decide) (by decide)) rfl (argsL := [(.ref x0)]) (rest := []) (lenOf pd_lc rfl) rfl (Nat.le_of_ble_eq_true rfl) (by decide +kernel) (by decide) (by decide) (fun v1 h1 q1 n1 => ?_)
  obtain ⟨p1, rfl, q⟩ := q1
  exact Run.retw hK (i := .areturn) rfl (Or.inr (Or.inr (Or.inr (Or.inr ⟨rfl, rfl, rfl⟩)))) (by decide +kernel) (by decide) (by decide) ⟨p1, rfl, q⟩
set_option maxRecDepth 65536 in
set_option maxHeartbeats 40000000 in
theorem c_e12 {l : Launch} {Z : State} {a0 : Array Value} {z0 : Int32} {fm : Value} (G : Env1 Z a0 z0 fm) (x0 : Addr) (h : Heap) : Ctr Z consts_1 false l [] (⟨"java/util/ImmutableCollections$List12", "isEmpty", "()Z"⟩ : MethodName) jdk_44_method_4_code 1 (some .boolean) ({ frames := 0, cells := 0, slots := 0, locals := 0 } : Room) #[(.ref x0)] h [] (fun v h' => h' = h ∧ v = some (.int 0)) := by
  obtain ⟨hw, hEL, O2, P5, O4⟩ := id G
  refine Ctr.of_run (a0 := a0) (L0 := #[.val (.ref x0)]) (plainFor_of_name pn_l12) hEL (by first | (simp [argsToLocals, Value.category, maxLocals]; done) | rfl) (fun K hK => ?_)
  refine Run.pure hK (seg := [(0, .iconst 0, 1)]) (by decide +kernel) (pc' := 1) (L' := #[.val (.ref x0)]) (S' := [(.int (0 : Int32))]) rfl ?_
  exact Run.retw hK (i := .ireturn) rfl (Or.inl ⟨rfl, Or.inr (Or.inl rfl), _, rfl⟩) (by decide +kernel) (by decide) (by decide) ⟨rfl, rfl⟩
set_option maxRecDepth 65536 in
set_option maxHeartbeats 40000000 in
theorem c_s12 {l : Launch} {Z : State} {a0 : Array Value} {z0 : Int32} {fm : Value} (G : Env1 Z a0 z0 fm) (x0 e : Addr) {N1 E0 e0 EM mr : Addr} {k1 k2 : ClassId} (LX : LF Z N1 E0 e0 EM mr k1 k2) (h : Heap) (F1 : Fld Z h x0 "java/util/ImmutableCollections$List12" "e1" "Ljava/lang/Object;" (.ref e)) : Ctr Z consts_1 false l [] (⟨"java/util/ImmutableCollections$List12", "size", "()I"⟩ : MethodName) jdk_44_method_3_code 1 (some .int) ({ frames := 0, cells := 0, slots := 0, locals := 0 } : Room) #[(.ref x0)] h [] (fun v h' => h' = h ∧ v = some (.int (if e = EM then 1 else 2))) := by
  obtain ⟨hw, hEL, O2, P5, O4⟩ := id G
  refine Ctr.of_run (a0 := a0) (L0 := #[.val (.ref x0)]) (plainFor_of_name pn_l12) hEL (by first | (simp [argsToLocals, Value.category, maxLocals]; done) | rfl) (fun K hK => ?_)
  obtain ⟨SD, AD, SE, XE, FE, AE, SM, XM, MI⟩ := id LX
  refine Run.old (fun hO => ?_)
  refine Run.pure hK (seg := [(0, .aload_n 0, 1)]) (by decide +kernel) (pc' := 1) (L' := #[.val (.ref x0)]) (S' := [(.ref x0)]) rfl ?_
  refine Run.getf hK (index := 24) (host := "") (Or.inl (hw _ (List.mem_of_getElem? (i := 261) rfl))) Via.refl F1 (by decide +kernel) ?_
  refine Run.getsN hK (index := 19) (hw _ (List.mem_of_getElem? (i := 260) rfl)) Via.refl (SM.ext hO) (by decide +kernel) ?_
  by_cases z : e = EM
  · refine Run.acmp hK (cd := .eq) (o := 7) (same := true) rfl rfl (by simp [z]) (by decide +kernel) (by decide) (pc' := 14) rfl ?_
    refine Run.pure hK (seg := [(14, .iconst 1, 1)]) (by decide +kernel) (pc' := 15) (L' := #[.val (.ref x0)]) (S' := [(.int (1 : Int32))]) rfl ?_
    exact Run.retw hK (i := .ireturn) rfl (Or.inl ⟨rfl, Or.inl rfl, _, rfl⟩) (by decide +kernel) (by decide) (by decide) ⟨rfl, by rw [if_pos z]⟩
  · refine Run.acmp hK (cd := .eq) (o := 7) (same := false) rfl rfl (by simp [z]) (by decide +kernel) (by decide) (pc' := 10) rfl ?_
    refine Run.pure hK (seg := [(10, .iconst 2, 1), (11, .goto 4, 3)]) (by decide +kernel) (pc' := 15) (L' := #[.val (.ref x0)]) (S' := [(.int (2 : Int32))]) rfl ?_
    exact Run.retw hK (i := .ireturn) rfl (Or.inl ⟨rfl, Or.inl rfl, _, rfl⟩) (by decide +kernel) (by decide) (by decide) ⟨rfl, by rw [if_neg z]⟩
set_option maxRecDepth 65536 in
set_option maxHeartbeats 40000000 in
theorem c_en {l : Launch} {Z : State} {a0 : Array Value} {z0 : Int32} {fm : Value} (G : Env1 Z a0 z0 fm) (x0 b : Addr) {k : ClassId} {n : Int32} {vs : List Value} (h : Heap) (F0 : Fld Z h x0 "java/util/ImmutableCollections$ListN" "elements" "[Ljava/lang/Object;" (.ref b)) (Ab : Arv Z h b k (.object "java/lang/Object") n vs .null) : Ctr Z consts_1 false l [] (⟨"java/util/ImmutableCollections$ListN", "isEmpty", "()Z"⟩ : MethodName) jdk_45_method_2_code 1 (some .boolean) ({ frames := 0, cells := 0, slots := 0, locals := 0 } : Room) #[(.ref x0)] h [] (fun v h' => h' = h ∧ v = some (.int (if n = 0 then 1 else 0))) := by
  obtain ⟨hw, hEL, O2, P5, O4⟩ := id G
  refine Ctr.of_run (a0 := a0) (L0 := #[.val (.ref x0)]) (plainFor_of_name pn_ln) hEL (by first | (simp [argsToLocals, Value.category, maxLocals]; done) | rfl) (fun K hK => ?_)
  refine Run.pure hK (seg := [(0, .aload_n 0, 1)]) (by decide +kernel) (pc' := 1) (L' := #[.val (.ref x0)]) (S' := [(.ref x0)]) rfl ?_
  refine Run.getf hK (index := 7) (host := "") (Or.inl (hw _ (List.mem_of_getElem? (i := 74) rfl))) Via.refl F0 (by decide +kernel) ?_
  refine Run.alen hK Ab (by decide +kernel) ?_
  refine Run.ifz hK (cd := .ne) (o := 7) (by decide +kernel) (by decide) (pc' := 12) rfl (fun q => ?_) (fun q => ?_)
  · replace q := (h_ne _ _).1 q
    refine Run.pure hK (seg := [(12, .iconst 0, 1)]) (by decide +kernel) (pc' := 13) (L' := #[.val (.ref x0)]) (S' := [(.int (0 : Int32))]) rfl ?_
    exact Run.retw hK (i := .ireturn) rfl (Or.inl ⟨rfl, Or.inr (Or.inl rfl), _, rfl⟩) (by decide +kernel) (by decide) (by decide) ⟨rfl, by rw [if_neg q]⟩
  · replace q := (h_ne _ _).2 q
    refine Run.pure hK (seg := [(8, .iconst 1, 1), (9, .goto 4, 3)]) (by decide +kernel) (pc' := 13) (L' := #[.val (.ref x0)]) (S' := [(.int (1 : Int32))]) rfl ?_
    exact Run.retw hK (i := .ireturn) rfl (Or.inl ⟨rfl, Or.inr (Or.inl rfl), _, rfl⟩) (by decide +kernel) (by decide) (by decide) ⟨rfl, by rw [if_pos q]⟩
set_option maxRecDepth 65536 in
set_option maxHeartbeats 40000000 in
theorem c_sn {l : Launch} {Z : State} {a0 : Array Value} {z0 : Int32} {fm : Value} (G : Env1 Z a0 z0 fm) (x0 b : Addr) {k : ClassId} {n : Int32} {vs : List Value} (h : Heap) (F0 : Fld Z h x0 "java/util/ImmutableCollections$ListN" "elements" "[Ljava/lang/Object;" (.ref b)) (Ab : Arv Z h b k (.object "java/lang/Object") n vs .null) : Ctr Z consts_1 false l [] (⟨"java/util/ImmutableCollections$ListN", "size", "()I"⟩ : MethodName) jdk_45_method_3_code 1 (some .int) ({ frames := 0, cells := 0, slots := 0, locals := 0 } : Room) #[(.ref x0)] h [] (fun v h' => h' = h ∧ v = some (.int n)) := by
  obtain ⟨hw, hEL, O2, P5, O4⟩ := id G
  refine Ctr.of_run (a0 := a0) (L0 := #[.val (.ref x0)]) (plainFor_of_name pn_ln) hEL (by first | (simp [argsToLocals, Value.category, maxLocals]; done) | rfl) (fun K hK => ?_)
  refine Run.pure hK (seg := [(0, .aload_n 0, 1)]) (by decide +kernel) (pc' := 1) (L' := #[.val (.ref x0)]) (S' := [(.ref x0)]) rfl ?_
  refine Run.getf hK (index := 7) (host := "") (Or.inl (hw _ (List.mem_of_getElem? (i := 74) rfl))) Via.refl F0 (by decide +kernel) ?_
  refine Run.alen hK Ab (by decide +kernel) ?_
  exact Run.retw hK (i := .ireturn) rfl (Or.inl ⟨rfl, Or.inl rfl, _, rfl⟩) (by decide +kernel) (by decide) (by decide) ⟨rfl, rfl⟩
set_option maxRecDepth 65536 in
set_option maxHeartbeats 40000000 in
theorem c_lof {l : Launch} {Z : State} {a0 : Array Value} {z0 : Int32} {fm : Value} (G : Env1 Z a0 z0 fm) {N1 E0 e0 EM mr : Addr} {k1 k2 : ClassId} (LX : LF Z N1 E0 e0 EM mr k1 k2) (h : Heap) : Ctr Z consts_1 false l [] (⟨"java/util/List", "of", "()Ljava/util/List;"⟩ : MethodName) jdk_40_method_36_code 0 (some (.object "java/util/List")) ({ frames := 0, cells := 0, slots := 0, locals := 0 } : Room) #[] h [] (fun v h' => h' = h ∧ v = some (.ref E0)) := by
  obtain ⟨hw, hEL, O2, P5, O4⟩ := id G
  refine Ctr.of_run (a0 := a0) (L0 := #[]) (plainFor_of_name pn_lst) hEL (by first | (simp [argsToLocals, Value.category, maxLocals]; done) | rfl) (fun K hK => ?_)
  obtain ⟨SD, AD, SE, XE, FE, AE, SM, XM, MI⟩ := id LX
  refine Run.old (fun hO => ?_)
  refine Run.gets hK (index := 90) (hw _ (List.mem_of_getElem? (i := 55) rfl)) Via.refl (SE.ext hO) (by decide +kernel) ?_
  exact Run.retw hK (i := .areturn) rfl (Or.inr (Or.inr (Or.inr (Or.inr ⟨rfl, rfl, rfl⟩)))) (by decide +kernel) (by decide) (by decide) ⟨rfl, rfl⟩
theorem pn_int : plainName "java/lang/Integer" = true := by first | (simp [plainName, overriddenIn]; done) | decide +kernel
theorem pn_num : plainName "java/lang/Number" = true := by first | (simp [plainName, overriddenIn]; done) | decide +kernel
theorem pd_ival : parseMethodDescriptor "(I)Ljava/lang/Integer;" = some ⟨[.int], some (.object "java/lang/Integer")⟩ := by decide +kernel
theorem pd_iini : parseMethodDescriptor "(I)V" = some ⟨[.int], none⟩ := by decide +kernel
def ICa (Z : State) : Prop := Sta Z Z.heap "java/lang/Integer$IntegerCache" "high" "I" (.int 127) ∧ ∃ (ca : Addr) (cc : Cell) (val : Int32 → Value), Sta Z Z.heap "java/lang/Integer$IntegerCache" "cache" "[Ljava/lang/Integer;" (.ref ca) ∧ Bxs Z ca cc "java/lang/Integer" "I" 256 val
set_option maxRecDepth 65536 in
set_option maxHeartbeats 40000000 in
theorem c_num {l : Launch} {Z : State} {a0 : Array Value} {z0 : Int32} {fm : Value} (G : Env1 Z a0 z0 fm) (x0 : Addr) (h : Heap) : Ctr Z consts_1 false l [] (⟨"java/lang/Number", "<init>", "()V"⟩ : MethodName) jdk_18_method_1_code 1 none ({ frames := 1, cells := 0, slots := 0, locals := 12 } : Room) #[(.ref x0)] h [] (fun v h' => h' = h ∧ v = none) := by
  obtain ⟨hw, hEL, O2, P5, O4⟩ := id G
  refine Ctr.of_run (a0 := a0) (L0 := #[.val (.ref x0)]) (plainFor_of_name pn_num) hEL (by first | (simp [argsToLocals, Value.category, maxLocals]; done) | rfl) (fun K hK => ?_)
  refine Run.pure hK (seg := [(0, .aload_n 0, 1)]) (by decide +kernel) (pc' := 1) (L' := #[.val (.ref x0)]) (S' := [(.ref x0)]) rfl ?_
  refine Run.initobj hK (index := 1) (hw _ (List.mem_of_getElem? (i := 133) rfl)) (hw _ (List.mem_of_getElem? (i := 16) rfl)) (hw _ (List.mem_of_getElem? (i := 17) rfl)) rfl (by decide +kernel) (by decide) (Wt := 0) (Nat.le_of_ble_eq_true rfl) (by decide) ?_
  exact Run.retv hK (by decide +kernel) (by decide) (by decide) ⟨rfl, rfl⟩
set_option maxRecDepth 65536 in
set_option maxHeartbeats 40000000 in
theorem c_iini {l : Launch} {Z : State} {a0 : Array Value} {z0 : Int32} {fm : Value} (G : Env1 Z a0 z0 fm) (x0 : Addr) (n0 : Int32) (h : Heap) (hx0 : Z.heap.size ≤ x0) (E : Exa Z h x0 "java/lang/Integer") (V : Fld Z h x0 "java/lang/Integer" "value" "I" (.int 0)) : Ctr Z consts_1 false l [] (⟨"java/lang/Integer", "<init>", "(I)V"⟩ : MethodName) jdk_33_method_23_code 2 none ({ frames := 2, cells := 0, slots := 0, locals := 24 } : Room) #[(.ref x0), (.int n0)] h [] (fun v h' => v = none ∧ Keep h h' [x0] ∧ Exa Z h' x0 "java/lang/Integer") := by
  obtain ⟨hw, hEL, O2, P5, O4⟩ := id G
  refine Ctr.of_run (a0 := a0) (L0 := #[.val (.ref x0), .val (.int n0)]) (plainFor_of_name pn_int) hEL (by first | (simp [argsToLocals, Value.category, maxLocals]; done) | rfl) (fun K hK => ?_)
  refine Run.pure hK (seg := [(0, .aload_n 0, 1)]) (by decide +kernel) (pc' := 1) (L' := #[.val (.ref x0), .val (.int n0)]) (S' := [(.ref x0)]) rfl ?_
  refine Run.special hK (index := 202) (y := (⟨"java/lang/Number", "<init>", "()V"⟩ : MethodName)) (Wt := 0) (kc := 0) (ks := 0) rfl (hw _ (List.mem_of_getElem? (i := 127) rfl)) (hw _ (List.mem_of_getElem? (i := 128) rfl)) (hw _ (List.mem_of_getElem? (i := 132) rfl)) (by decide) (a := x0) (W' := []) (fun _ q => nomatch q) (Ctr.cal (c_num G x0 h) (hw _ (List.mem_of_getElem? (i := 132) rfl)) (hw _ (List.mem_of_getElem? (i := 131) rfl)) (by decide) (by decide)) rfl (argsL := []) (rest := []) (lenOf pd_v rfl) rfl (Nat.le_of_ble_eq_true rfl) (by decide +kernel) (by decide) (by decide) (fun v1 h1 q1 n1 => ?_)
  obtain ⟨rfl, rfl⟩ := q1
  refine Run.pure hK (seg := [(4, .aload_n 0, 1), (5, .iload_n 1, 1)]) (by decide +kernel) (pc' := 6) (L' := #[.val (.ref x0), .val (.int n0)]) (S' := [(.int n0), (.ref x0)]) rfl ?_
  refine Run.putf hK (index := 205) (host := "") (Or.inl (hw _ (List.mem_of_getElem? (i := 134) rfl))) Via.refl V E (Or.inr ⟨(hw _ (List.mem_of_getElem? (i := 135) rfl)), rfl, rfl⟩) (hw _ (List.mem_of_getElem? (i := 122) rfl)) (ty := .int) (by decide) rfl rfl hx0 (sfE E (by decide) (by decide)) (by decide +kernel) (fun h2 W2 => ?_)
  exact Run.retv hK (by decide +kernel) (by decide) (by decide) ⟨rfl, (Keep.refl _ [x0]).wr W2 (Or.inl (List.mem_singleton.mpr rfl)), E.wr W2⟩
set_option maxRecDepth 65536 in
set_option maxHeartbeats 40000000 in
theorem c_ival {l : Launch} {Z : State} {a0 : Array Value} {z0 : Int32} {fm : Value} (G : Env1 Z a0 z0 fm) (n0 : Int32) (h : Heap) (IA : ICa Z) : Ctr Z consts_1 false l [] (⟨"java/lang/Integer", "valueOf", "(I)Ljava/lang/Integer;"⟩ : MethodName) jdk_33_method_22_code 1 (some (.object "java/lang/Integer")) ({ frames := 3, cells := 1, slots := 1, locals := 40 } : Room) #[(.int n0)] h [] (fun v h' => ∃ a, v = some (.ref a) ∧ Exa Z h' a "java/lang/Integer" ∧ Ext h h') := by
  obtain ⟨hw, hEL, O2, P5, O4⟩ := id G
  refine Ctr.of_run (a0 := a0) (L0 := #[.val (.int n0)]) (plainFor_of_name pn_int) hEL (by first | (simp [argsToLocals, Value.category, maxLocals]; done) | rfl) (fun K hK => ?_)
  obtain ⟨IH, ca, cc, val, IS, IB⟩ := IA
  refine Run.old (fun hO => ?_)
  refine Run.pure hK (seg := [(0, .iload_n 0, 1), (1, .bipush (-128), 2)]) (by decide +kernel) (pc' := 3) (L' := #[.val (.int n0)]) (S' := [(.int (-128 : Int32)), (.int n0)]) rfl ?_
  refine Run.icmp hK (cd := .lt) (o := 20) (by decide +kernel) (by decide) (pc' := 23) rfl (fun q1 => ?_) (fun q1 => ?_)
  · replace q1 := (h_lt _ _).1 q1
    refine Run.new hK (index := 1) (C := "java/lang/Integer") (n := 1) (hw _ (List.mem_of_getElem? (i := 121) rfl)) (hw _ (List.mem_of_getElem? (i := 122) rfl)) (hw _ (List.mem_of_getElem? (i := 117) rfl)) (by decide +kernel) (by decide) (by decide) (fun hi Ei Xi Di => ?_)
    obtain ⟨ai, zi⟩ : ∃ z, z = h.size := ⟨_, rfl⟩
    rw [← zi]
    rw [← zi] at Xi Di
    refine Run.pure hK (seg := [(26, .dup, 1), (27, .iload_n 0, 1)]) (by decide +kernel) (pc' := 28) (L' := #[.val (.int n0)]) (S' := [(.int n0), (.ref ai), (.ref ai)]) rfl ?_
    refine Run.special hK (index := 199) (y := (⟨"java/lang/Integer", "<init>", "(I)V"⟩ : MethodName)) (Wt := 1) (kc := 0) (ks := 0) rfl (hw _ (List.mem_of_getElem? (i := 123) rfl)) (hw _ (List.mem_of_getElem? (i := 124) rfl)) (hw _ (List.mem_of_getElem? (i := 126) rfl)) (by decide) (a := ai) (W' := []) (fun _ q => nomatch q) (Ctr.cal (c_iini G ai n0 hi (by rw [zi]; exact hO.1) Xi (Di (Or.inr (hw _ (List.mem_of_getElem? (i := 135) rfl))) (ty := .int) (by decide))) (hw _ (List.mem_of_getElem? (i := 126) rfl)) (hw _ (List.mem_of_getElem? (i := 117) rfl)) (by decide) (by decide)) rfl (argsL := [(.int n0)]) (rest := [(.ref ai)]) (lenOf pd_iini rfl) rfl (Nat.le_of_ble_eq_true rfl) (by decide +kernel) (by decide) (by decide) (fun vj hj qj nj => ?_)
    obtain ⟨rfl, Kj, Ej⟩ := qj
    exact Run.retw hK (i := .areturn) rfl (Or.inr (Or.inr (Or.inr (Or.inr ⟨rfl, rfl, rfl⟩)))) (by decide +kernel) (by decide) (by decide) ⟨ai, rfl, Ej, ext_keep Ei Kj (fun x hx => by cases List.mem_singleton.mp hx; rw [zi]; exact Nat.le_refl _)⟩
  · replace q1 := (h_lt _ _).2 q1
    refine Run.pure hK (seg := [(6, .iload_n 0, 1)]) (by decide +kernel) (pc' := 7) (L' := #[.val (.int n0)]) (S' := [(.int n0)]) rfl ?_
    refine Run.gets hK (index := 191) (hw _ (List.mem_of_getElem? (i := 119) rfl)) Via.refl (IH.ext hO) (by decide +kernel) ?_
    refine Run.icmp hK (cd := .gt) (o := 13) (by decide +kernel) (by decide) (pc' := 23) rfl (fun q2 => ?_) (fun q2 => ?_)
    · replace q2 := (h_gt _ _).1 q2
      refine Run.new hK (index := 1) (C := "java/lang/Integer") (n := 1) (hw _ (List.mem_of_getElem? (i := 121) rfl)) (hw _ (List.mem_of_getElem? (i := 122) rfl)) (hw _ (List.mem_of_getElem? (i := 117) rfl)) (by decide +kernel) (by decide) (by decide) (fun hi Ei Xi Di => ?_)
      obtain ⟨ai, zi⟩ : ∃ z, z = h.size := ⟨_, rfl⟩
      rw [← zi]
      rw [← zi] at Xi Di
      refine Run.pure hK (seg := [(26, .dup, 1), (27, .iload_n 0, 1)]) (by decide +kernel) (pc' := 28) (L' := #[.val (.int n0)]) (S' := [(.int n0), (.ref ai), (.ref ai)]) rfl ?_
      refine Run.special hK (index := 199) (y := (⟨"java/lang/Integer", "<init>", "(I)V"⟩ : MethodName)) (Wt := 1) (kc := 0) (ks := 0) rfl (hw _ (List.mem_of_getElem? (i := 123) rfl)) (hw _ (List.mem_of_getElem? (i := 124) rfl)) (hw _ (List.mem_of_getElem? (i := 126) rfl)) (by decide) (a := ai) (W' := []) (fun _ q => nomatch q) (Ctr.cal (c_iini G ai n0 hi (by rw [zi]; exact hO.1) Xi (Di (Or.inr (hw _ (List.mem_of_getElem? (i := 135) rfl))) (ty := .int) (by decide))) (hw _ (List.mem_of_getElem? (i := 126) rfl)) (hw _ (List.mem_of_getElem? (i := 117) rfl)) (by decide) (by decide)) rfl (argsL := [(.int n0)]) (rest := [(.ref ai)]) (lenOf pd_iini rfl) rfl (Nat.le_of_ble_eq_true rfl) (by decide +kernel) (by decide) (by decide) (fun vj hj qj nj => ?_)
      obtain ⟨rfl, Kj, Ej⟩ := qj
      exact Run.retw hK (i := .areturn) rfl (Or.inr (Or.inr (Or.inr (Or.inr ⟨rfl, rfl, rfl⟩)))) (by decide +kernel) (by decide) (by decide) ⟨ai, rfl, Ej, ext_keep Ei Kj (fun x hx => by cases List.mem_singleton.mp hx; rw [zi]; exact Nat.le_refl _)⟩
    · replace q2 := (h_gt _ _).2 q2
      refine Run.gets hK (index := 195) (hw _ (List.mem_of_getElem? (i := 290) rfl)) Via.refl (IS.ext hO) (by decide +kernel) ?_
      refine Run.pure hK (seg := [(16, .iload_n 0, 1), (17, .sipush 128, 3), (20, .iadd, 1)]) (by decide +kernel) (pc' := 21) (L' := #[.val (.int n0)]) (S' := [(.int (n0 + (128 : Int32))), (.ref ca)]) rfl ?_
      obtain ⟨B1, B2, B3, B4⟩ := IB
      have pk := Jvm.Free.IntBox.place_ok n0 (fun z => q1 z) (fun z => q2 z)
      have hin : ¬ ((n0 + 128) < 0 ∨ cc.slots.size ≤ (n0 + 128).toNatClampNeg) := by rw [B2]; exact pk.1
      obtain ⟨bx, e1, e2, -⟩ := B4 (n0 + 128) hin
      refine Run.aald hK (j := n0 + 128) (B1.ext hO) rfl hin e1 (by decide +kernel) ?_
      exact Run.retw hK (i := .areturn) rfl (Or.inr (Or.inr (Or.inr (Or.inr ⟨rfl, rfl, rfl⟩)))) (by decide +kernel) (by decide) (by decide) ⟨bx, rfl, e2.ext hO, Ext.rf⟩
theorem pd_dr : parseMethodDescriptor "(I)Ljava/lang/String;" = some ⟨[.int], some (.object "java/lang/String")⟩ := by decide +kernel
theorem pd_nl : parseMethodDescriptor "(Ljava/lang/String;)Lcom/example/resolve_place/resolveplace/parser/ParsedQuery;" = some ⟨[(.object "java/lang/String")], some (.object "com/example/resolve_place/resolveplace/parser/ParsedQuery")⟩ := by decide +kernel
theorem pd_pq1 : parseMethodDescriptor "(Ljava/lang/String;)V" = some ⟨[(.object "java/lang/String")], none⟩ := by decide +kernel
theorem pd_pq5 : parseMethodDescriptor "(Ljava/lang/String;Ljava/lang/String;Lcom/example/resolve_place/resolveplace/parser/WhatType;Lcom/example/resolve_place/resolveplace/parser/GeoRelation;Ljava/util/List;)V" = some ⟨[(.object "java/lang/String"), (.object "java/lang/String"), (.object "com/example/resolve_place/resolveplace/parser/WhatType"), (.object "com/example/resolve_place/resolveplace/parser/GeoRelation"), (.object "java/util/List")], none⟩ := by decide +kernel
theorem pd_val : parseMethodDescriptor "(C)Ljava/lang/String;" = some ⟨[.char], some (.object "java/lang/String")⟩ := by decide +kernel
theorem pd_can : parseMethodDescriptor "(C)Z" = some ⟨[.char], some .boolean⟩ := by decide +kernel
theorem pd_tob : parseMethodDescriptor "(C)[B" = some ⟨[.char], some (.array .byte)⟩ := by decide +kernel
theorem pd_sbb : parseMethodDescriptor "([BB)V" = some ⟨[(.array .byte), .byte], none⟩ := by decide +kernel
def PQo (Z : State) (h : Heap) (x p : Addr) : Prop := Exa Z h x "com/example/resolve_place/resolveplace/parser/ParsedQuery" ∧ Fld Z h x "com/example/resolve_place/resolveplace/parser/ParsedQuery" "places" "Ljava/util/List;" (.ref p)
theorem ALo.wr {Z : State} {h h' : Heap} {x ar a : Addr} {k : ClassId} {vs : List Addr} {sl : Nat} {v : Value} (F : ALo Z h x ar k vs) (W : Wr h h' a sl v) (g1 : x ≠ a) (g2 : ar ≠ a) : ALo Z h' x ar k vs := by
  obtain ⟨f1, f2, f3, ⟨m, f4⟩, f5, f6, r⟩ := F
  exact ⟨f1.wr W, f2.other W (Or.inl g1), f3.other W (Or.inl g1), ⟨m, f4.other W (Or.inl g1)⟩, f5.other W g2, f6.wr W, r⟩
theorem Pl.wr {Z : State} {a0 : Array Value} {h h' : Heap} {p EM a : Addr} {n : Int32} {sl m : Nat} {v : Value} {C : String} (P : Pl Z h p EM n) (W : Wr h h' a sl v) (X : Exa Z h a C) (wi : (Jvm.Cond.instantiable C m).before a0 Z = true) (g1 : "java/util/ImmutableCollections$List12" ≠ C) (g2 : "java/util/ImmutableCollections$ListN" ≠ C) : Pl Z h' p EM n := by
  rcases P with ⟨f1, e, f2, f3⟩ | ⟨f1, b, k, vs, f2, f3⟩
  · exact Or.inl ⟨f1.wr W, e, f2.other W (Or.inl (f1.ne X g1)), f3⟩
  · exact Or.inr ⟨f1.wr W, b, k, vs, f2.other W (Or.inl (f1.ne X g2)), f3.other W (X.neArv f3 wi).symm⟩
def EnW (Z : State) (f : String) : Prop := ∃ a, Sta Z Z.heap "com/example/resolve_place/resolveplace/parser/WhatType" f "Lcom/example/resolve_place/resolveplace/parser/WhatType;" (.ref a) ∧ Exa Z Z.heap a "com/example/resolve_place/resolveplace/parser/WhatType"
def EnG (Z : State) (f : String) : Prop := ∃ a, Sta Z Z.heap "com/example/resolve_place/resolveplace/parser/GeoRelation" f "Lcom/example/resolve_place/resolveplace/parser/GeoRelation;" (.ref a) ∧ Exa Z Z.heap a "com/example/resolve_place/resolveplace/parser/GeoRelation"
theorem cnt3 (x : Int32) : (1 : Int32) + ((x &&& (2147483647 : Int32)) % (3 : Int32)) = 1 ∨ (1 : Int32) + ((x &&& (2147483647 : Int32)) % (3 : Int32)) = 2 ∨ (1 : Int32) + ((x &&& (2147483647 : Int32)) % (3 : Int32)) = 3 := by
  have q1 := c_and x 2147483647 (by decide)
  have q2 := (c_irem (x &&& 2147483647) 3 3 rfl).1 q1.1
  have q3 := c_iadd 1 ((x &&& 2147483647) % 3)
  obtain ⟨r, er⟩ : ∃ r, r = (x &&& (2147483647 : Int32)) % (3 : Int32) := ⟨_, rfl⟩
  rw [← er] at q2 q3 ⊢
  clear q1 er
  have o1 : (1 : Int32).toInt = 1 := rfl
  have h0 : r.toInt = 0 ∨ r.toInt = 1 ∨ r.toInt = 2 := by omega
  rcases h0 with z | z | z
  · left; rw [show r = 0 from Int32.toInt_inj.mp z]; rfl
  · right; left; rw [show r = 1 from Int32.toInt_inj.mp z]; rfl
  · right; right; rw [show r = 2 from Int32.toInt_inj.mp z]; rfl
set_option maxRecDepth 65536 in
set_option maxHeartbeats 40000000 in
theorem c_can {l : Launch} {Z : State} {a0 : Array Value} {z0 : Int32} {fm : Value} (G : Env1 Z a0 z0 fm) (x0 : Int32) (h : Heap) (hx : ¬ x0 < 0 ∧ ¬ (255 : Int32) < x0) : Ctr Z consts_1 false l [] (⟨"java/lang/StringLatin1", "canEncode", "(C)Z"⟩ : MethodName) jdk_43_method_3_code 1 (some .boolean) ({ frames := 0, cells := 0, slots := 0, locals := 0 } : Room) #[(.int x0)] h [] (fun v h' => h' = h ∧ v = some (.int 1)) := by
  obtain ⟨hw, hEL, O2, P5, O4⟩ := id G
  refine Ctr.of_run (a0 := a0) (L0 := #[.val (.int x0)]) (plainFor_of_name pn_l1) hEL (by first | (simp [argsToLocals, Value.category, maxLocals]; done) | rfl) (fun K hK => ?_)
  refine Run.pure hK (seg := [(0, .iload_n 0, 1), (1, .sipush 255, 3)]) (by decide +kernel) (pc' := 4) (L' := #[.val (.int x0)]) (S' := [(.int (255 : Int32)), (.int x0)]) rfl ?_
  refine Run.icmp hK (cd := .gt) (o := 7) (by decide +kernel) (by decide) (pc' := 11) rfl (fun q => by exact absurd ((h_gt _ _).1 q) hx.2) (fun _ => ?_)
  refine Run.pure hK (seg := [(7, .iconst 1, 1), (8, .goto 4, 3)]) (by decide +kernel) (pc' := 12) (L' := #[.val (.int x0)]) (S' := [(.int (1 : Int32))]) rfl ?_
  exact Run.retw hK (i := .ireturn) rfl (Or.inl ⟨rfl, Or.inr (Or.inl rfl), _, rfl⟩) (by decide +kernel) (by decide) (by decide) ⟨rfl, rfl⟩
set_option maxRecDepth 65536 in
set_option maxHeartbeats 40000000 in
theorem c_tob {l : Launch} {Z : State} {a0 : Array Value} {z0 : Int32} {fm : Value} (G : Env1 Z a0 z0 fm) (x0 : Int32) (h : Heap) : Ctr Z consts_1 false l [] (⟨"java/lang/StringLatin1", "toBytes", "(C)[B"⟩ : MethodName) jdk_43_method_46_code 1 (some (.array .byte)) ({ frames := 0, cells := 1, slots := 1, locals := 0 } : Room) #[(.int x0)] h [] (fun v h' => ∃ a, v = some (.ref a) ∧ Ext h h') := by
  obtain ⟨hw, hEL, O2, P5, O4⟩ := id G
  refine Ctr.of_run (a0 := a0) (L0 := #[.val (.int x0)]) (plainFor_of_name pn_l1) hEL (by first | (simp [argsToLocals, Value.category, maxLocals]; done) | rfl) (fun K hK => ?_)
  refine Run.old (fun hO => ?_)
  refine Run.pure hK (seg := [(0, .iconst 1, 1)]) (by decide +kernel) (pc' := 1) (L' := #[.val (.int x0)]) (S' := [(.int (1 : Int32))]) rfl ?_
  refine Run.newarr hK (aty := .byte) (hw _ (List.mem_of_getElem? (i := 19) rfl)) (by decide +kernel) (by decide) (cap := 1) (by decide) (by decide) (by decide) (by decide) (fun hr kr Er Ar => ?_)
  obtain ⟨ar, zr⟩ : ∃ z, z = h.size := ⟨_, rfl⟩
  rw [← zr]
  rw [← zr] at Ar
  refine Run.pure hK (seg := [(3, .dup, 1), (4, .iconst 0, 1), (5, .iload_n 0, 1), (6, .i2b, 1)]) (by decide +kernel) (pc' := 7) (L' := #[.val (.int x0)]) (S' := [(.int x0.toInt8.toInt32), (.int (0 : Int32)), (.ref ar), (.ref ar)]) rfl ?_
  refine Run.bst hK Ar ⟨by decide, by decide⟩ (by rw [zr]; exact hO.1) (sfW (List.mem_cons_self ..)) (by decide +kernel) (fun h1 W1 B1 => ?_)
  exact Run.retw hK (i := .areturn) rfl (Or.inr (Or.inr (Or.inr (Or.inr ⟨rfl, rfl, rfl⟩)))) (by decide +kernel) (by decide) (by decide) ⟨ar, rfl, ext_wr Er W1 (by rw [zr]; exact Nat.le_refl _)⟩
set_option maxRecDepth 65536 in
set_option maxHeartbeats 40000000 in
theorem c_sbb {l : Launch} {Z : State} {a0 : Array Value} {z0 : Int32} {fm : Value} (G : Env1 Z a0 z0 fm) (x0 b0 : Addr) (h : Heap) (hx0 : Z.heap.size ≤ x0) (E : Exa Z h x0 "java/lang/String") {v0 c0 : Value} (V : Fld Z h x0 "java/lang/String" "value" "[B" v0) (C : Fld Z h x0 "java/lang/String" "coder" "B" c0) : Ctr Z consts_1 false l [] (⟨"java/lang/String", "<init>", "([BB)V"⟩ : MethodName) jdk_42_method_151_code 3 none ({ frames := 1, cells := 0, slots := 0, locals := 12 } : Room) #[(.ref x0), (.ref b0), (.int (0 : Int32))] h [x0] (fun v h' => v = none ∧ Keep h h' [x0] ∧ Exa Z h' x0 "java/lang/String") := by
  obtain ⟨hw, hEL, O2, P5, O4⟩ := id G
  refine Ctr.of_run (a0 := a0) (L0 := #[.val (.ref x0), .val (.ref b0), .val (.int (0 : Int32))]) (plainFor_of_name pn_str) hEL (by first | (simp [argsToLocals, Value.category, maxLocals]; done) | rfl) (fun K hK => ?_)
  refine Run.pure hK (seg := [(0, .aload_n 0, 1)]) (by decide +kernel) (pc' := 1) (L' := #[.val (.ref x0), .val (.ref b0), .val (.int (0 : Int32))]) (S' := [(.ref x0)]) rfl ?_
  refine Run.initobj hK (index := 1) (hw _ (List.mem_of_getElem? (i := 15) rfl)) (hw _ (List.mem_of_getElem? (i := 16) rfl)) (hw _ (List.mem_of_getElem? (i := 17) rfl)) rfl (by decide +kernel) (by decide) (Wt := 0) (Nat.le_of_ble_eq_true rfl) (by decide) ?_
  refine Run.pure hK (seg := [(4, .aload_n 0, 1), (5, .aload_n 1, 1)]) (by decide +kernel) (pc' := 6) (L' := #[.val (.ref x0), .val (.ref b0), .val (.int (0 : Int32))]) (S' := [(.ref b0), (.ref x0)]) rfl ?_
  refine Run.putf hK (index := 9) (host := "") (Or.inl (hw _ (List.mem_of_getElem? (i := 24) rfl))) Via.refl V E (Or.inr ⟨(hw _ (List.mem_of_getElem? (i := 20) rfl)), rfl, rfl⟩) (hw _ (List.mem_of_getElem? (i := 5) rfl)) (ty := (.array .byte)) (by decide) rfl rfl hx0 (sfW (List.mem_singleton.mpr rfl)) (by decide +kernel) (fun h1 W1 => ?_)
  have hsl : Jvm.RoadKit.slotOf Z "java/lang/String" "coder" "B" ≠ Jvm.RoadKit.slotOf Z "java/lang/String" "value" "[B" := slot_ne (Or.inr (hw _ (List.mem_of_getElem? (i := 21) rfl))) (Or.inr (hw _ (List.mem_of_getElem? (i := 20) rfl))) (by decide) (by decide : parseFieldDescriptor "B" = some .byte) (by decide : parseFieldDescriptor "[B" = some (.array .byte))
  refine Run.pure hK (seg := [(9, .aload_n 0, 1), (10, .iload_n 2, 1)]) (by decide +kernel) (pc' := 11) (L' := #[.val (.ref x0), .val (.ref b0), .val (.int (0 : Int32))]) (S' := [(.int (0 : Int32)), (.ref x0)]) rfl ?_
  refine Run.putf hK (index := 15) (host := "") (Or.inl (hw _ (List.mem_of_getElem? (i := 25) rfl))) Via.refl (C.other W1 (Or.inr hsl)) (E.wr W1) (Or.inr ⟨(hw _ (List.mem_of_getElem? (i := 21) rfl)), rfl, rfl⟩) (hw _ (List.mem_of_getElem? (i := 5) rfl)) (ty := .byte) (by decide) rfl rfl hx0 (sfW (List.mem_singleton.mpr rfl)) (by decide +kernel) (fun h2 W2 => ?_)
  exact Run.retv hK (by decide +kernel) (by decide) (by decide) ⟨rfl, ((Keep.refl h [x0]).wr W1 (Or.inl (List.mem_singleton.mpr rfl))).wr W2 (Or.inl (List.mem_singleton.mpr rfl)), (E.wr W1).wr W2⟩
set_option maxRecDepth 65536 in
set_option maxHeartbeats 40000000 in
theorem c_val {l : Launch} {Z : State} {a0 : Array Value} {z0 : Int32} {fm : Value} (G : Env1 Z a0 z0 fm) (x0 : Int32) (h : Heap) (hx : ¬ x0 < 0 ∧ ¬ (255 : Int32) < x0) : Ctr Z consts_1 false l [] (⟨"java/lang/String", "valueOf", "(C)Ljava/lang/String;"⟩ : MethodName) jdk_42_method_139_code 1 (some (.object "java/lang/String")) ({ frames := 2, cells := 2, slots := 5, locals := 40 } : Room) #[(.int x0)] h [] (fun v h' => ∃ a, v = some (.ref a) ∧ Exa Z h' a "java/lang/String" ∧ Ext h h') := by
  obtain ⟨hw, hEL, O2, P5, O4⟩ := id G
  refine Ctr.of_run (a0 := a0) (L0 := #[.val (.int x0)]) (plainFor_of_name pn_str) hEL (by first | (simp [argsToLocals, Value.category, maxLocals]; done) | rfl) (fun K hK => ?_)
  refine Run.old (fun hO => ?_)
  refine Run.gets hK (index := 38) (hw _ (List.mem_of_getElem? (i := 277) rfl)) Via.refl (O2.ext hO) (by decide +kernel) ?_
  refine Run.ifz hK (cd := .eq) (o := 23) (by decide +kernel) (by decide) (pc' := 26) rfl (fun q => by replace q := (h_eq _ _).1 q; exact absurd q P5) (fun _ => ?_)
  refine Run.pure hK (seg := [(6, .iload_n 0, 1)]) (by decide +kernel) (pc' := 7) (L' := #[.val (.int x0)]) (S' := [(.int x0)]) rfl ?_
  refine Run.static hK (index := 1015) (y := (⟨"java/lang/StringLatin1", "canEncode", "(C)Z"⟩ : MethodName)) (Wt := 0) (kc := 0) (ks := 0) (hw _ (List.mem_of_getElem? (i := 322) rfl)) (hw _ (List.mem_of_getElem? (i := 323) rfl)) (hw _ (List.mem_of_getElem? (i := 324) rfl)) (hw _ (List.mem_of_getElem? (i := 325) rfl)) (by decide) (W' := []) (fun _ q => nomatch q) (Ctr.cal (c_can G x0 h hx) (hw _ (List.mem_of_getElem? (i := 325) rfl)) (hw _ (List.mem_of_getElem? (i := 324) rfl)) (by decide) (by decide)) rfl (argsL := [(.int x0)]) (rest := []) (lenOf pd_can rfl) rfl (Nat.le_of_ble_eq_true rfl) (by decide +kernel) (by decide) (by decide) (fun v1 h1 q1 n1 => ?_)
  obtain ⟨rfl, rfl⟩ := q1
  refine Run.ifz hK (cd := .eq) (o := 16) (by decide +kernel) (by decide) (pc' := 26) rfl (fun q => by replace q := (h_eq _ _).1 q; exact absurd q (by decide)) (fun _ => ?_)
  refine Run.new hK (index := 10) (C := "java/lang/String") (n := 4) (hw _ (List.mem_of_getElem? (i := 326) rfl)) (hw _ (List.mem_of_getElem? (i := 5) rfl)) (hw _ (List.mem_of_getElem? (i := 6) rfl)) (by decide +kernel) (by decide) (by decide) (fun hs0 Es0 Xs0 Ds0 => ?_)
  obtain ⟨as0, zs0⟩ : ∃ z, z = h1.size := ⟨_, rfl⟩
  rw [← zs0]
  rw [← zs0] at Xs0 Ds0
  refine Run.pure hK (seg := [(16, .dup, 1), (17, .iload_n 0, 1)]) (by decide +kernel) (pc' := 18) (L' := #[.val (.int x0)]) (S' := [(.int x0), (.ref as0), (.ref as0)]) rfl ?_
  refine Run.static hK (index := 1018) (y := (⟨"java/lang/StringLatin1", "toBytes", "(C)[B"⟩ : MethodName)) (Wt := 2) (kc := 1) (ks := 1) (hw _ (List.mem_of_getElem? (i := 327) rfl)) (hw _ (List.mem_of_getElem? (i := 328) rfl)) (hw _ (List.mem_of_getElem? (i := 324) rfl)) (hw _ (List.mem_of_getElem? (i := 329) rfl)) (by decide) (W' := []) (fun _ q => nomatch q) (Ctr.cal (c_tob G x0 hs0) (hw _ (List.mem_of_getElem? (i := 329) rfl)) (hw _ (List.mem_of_getElem? (i := 324) rfl)) (by decide) (by decide)) rfl (argsL := [(.int x0)]) (rest := [(.ref as0), (.ref as0)]) (lenOf pd_tob rfl) rfl (Nat.le_of_ble_eq_true rfl) (by decide +kernel) (by decide) (by decide) (fun v2 h2 q2 n2 => ?_)
  obtain ⟨b2, rfl, E2⟩ := q2
  have V := (Ds0 (Or.inr (hw _ (List.mem_of_getElem? (i := 20) rfl))) (ty := .array .byte) (by decide)).ext E2
  have C := (Ds0 (Or.inr (hw _ (List.mem_of_getElem? (i := 21) rfl))) (ty := .byte) (by decide)).ext E2
  refine Run.pure hK (seg := [(21, .iconst 0, 1)]) (by decide +kernel) (pc' := 22) (L' := #[.val (.int x0)]) (S' := [(.int (0 : Int32)), (.ref b2), (.ref as0), (.ref as0)]) rfl ?_
  refine Run.special hK (index := 209) (y := (⟨"java/lang/String", "<init>", "([BB)V"⟩ : MethodName)) (Wt := 1) (kc := 0) (ks := 0) rfl (hw _ (List.mem_of_getElem? (i := 330) rfl)) (hw _ (List.mem_of_getElem? (i := 331) rfl)) (hw _ (List.mem_of_getElem? (i := 332) rfl)) (by decide) (a := as0) (W' := [as0]) (fun x hx => by cases List.mem_singleton.mp hx; exact List.mem_cons_self ..) (Ctr.cal (c_sbb G as0 b2 h2 (by rw [zs0]; exact hO.1) (Xs0.ext E2) V C) (hw _ (List.mem_of_getElem? (i := 332) rfl)) (hw _ (List.mem_of_getElem? (i := 6) rfl)) (by decide) (by decide)) rfl (argsL := [(.ref b2), (.int (0 : Int32))]) (rest := [(.ref as0)]) (lenOf pd_sbb rfl) rfl (Nat.le_of_ble_eq_true rfl) (by decide +kernel) (by decide) (by decide) (fun v3 h3 q3 n3 => ?_)
  obtain ⟨rfl, K3, f1⟩ := q3
  exact Run.retw hK (i := .areturn) rfl (Or.inr (Or.inr (Or.inr (Or.inr ⟨rfl, rfl, rfl⟩)))) (by decide +kernel) (by decide) (by decide) ⟨as0, rfl, f1, ext_keep (Ext.tr Es0 E2) K3 (fun x hx => by cases List.mem_singleton.mp hx; rw [zs0]; exact Nat.le_refl _)⟩
set_option maxRecDepth 65536 in
set_option maxHeartbeats 40000000 in
theorem c_dr {l : Launch} {Z : State} {a0 : Array Value} {z0 : Int32} {fm : Value} (G : Env1 Z a0 z0 fm) (x0 : Int32) (h : Heap) : Ctr Z consts_1 false l [] (⟨"com/example/resolve_place/resolveplace/parser/ParsedQueryIsLocalPinLaw", "drawn", "(I)Ljava/lang/String;"⟩ : MethodName) method_2_code 2 (some (.object "java/lang/String")) ({ frames := 4, cells := 6, slots := 16, locals := 70 } : Room) #[(.int x0)] h [] (fun v h' => ∃ a, v = some (.ref a) ∧ Exa Z h' a "java/lang/String" ∧ Ext h h') := by
  obtain ⟨hw, hEL, O2, P5, O4⟩ := id G
  refine Ctr.of_run (a0 := a0) (L0 := #[.val (.int x0), .unset]) (plainFor_of_name pn_law) hEL (by first | (simp [argsToLocals, Value.category, maxLocals]; done) | rfl) (fun K hK => ?_)
  refine Run.old (fun hO => ?_)
  refine Run.pure hK (seg := [(0, .iload_n 0, 1), (1, .bipush 16, 2), (3, .iushr, 1), (4, .iconst 3, 1), (5, .iand, 1), (6, .istore_n 1, 1)]) (by decide +kernel) (pc' := 7) (L' := #[.val (.int x0), .val (.int ((XT.ushr x0 (16 : Int32)) &&& (3 : Int32)))]) (S' := []) rfl ?_
  obtain ⟨n, e_n⟩ : ∃ z : Int32, z = ((XT.ushr x0 (16 : Int32)) &&& (3 : Int32)) := ⟨_, rfl⟩
  rw [← e_n]
  clear e_n
  refine Run.pure hK (seg := [(7, .iload_n 1, 1)]) (by decide +kernel) (pc' := 8) (L' := #[.val (.int x0), .val (.int n)]) (S' := [(.int n)]) rfl ?_
  refine Run.ifz hK (cd := .ne) (o := 14) (by decide +kernel) (by decide) (pc' := 22) rfl (fun q0 => ?_) (fun q0 => ?_)
  · replace q0 := (h_ne _ _).1 q0
    refine Run.pure hK (seg := [(22, .iload_n 1, 1), (23, .iconst 1, 1)]) (by decide +kernel) (pc' := 24) (L' := #[.val (.int x0), .val (.int n)]) (S' := [(.int (1 : Int32)), (.int n)]) rfl ?_
    refine Run.icmp hK (cd := .ne) (o := 13) (by decide +kernel) (by decide) (pc' := 37) rfl (fun q1 => ?_) (fun q1 => ?_)
    · replace q1 := (h_ne _ _).1 q1
      refine Run.new hK (index := 7) (C := "java/lang/String") (n := 4) (hw _ (List.mem_of_getElem? (i := 4) rfl)) (hw _ (List.mem_of_getElem? (i := 5) rfl)) (hw _ (List.mem_of_getElem? (i := 6) rfl)) (by decide +kernel) (by decide) (by decide) (fun hg Eg Xg Dg => ?_)
      obtain ⟨ag, zg⟩ : ∃ z, z = h.size := ⟨_, rfl⟩
      rw [← zg]
      rw [← zg] at Xg Dg
      refine Run.pure hK (seg := [(40, .dup, 1), (41, .iconst 2, 1)]) (by decide +kernel) (pc' := 42) (L' := #[.val (.int x0), .val (.int n)]) (S' := [(.int (2 : Int32)), (.ref ag), (.ref ag)]) rfl ?_
      refine Run.newarr hK (aty := .char) (hw _ (List.mem_of_getElem? (i := 7) rfl)) (by decide +kernel) (by decide) (cap := 2) (by decide) (by decide) (by decide) (by decide) (fun hr kr Er Ar => ?_)
      obtain ⟨ar, zr⟩ : ∃ z, z = hg.size := ⟨_, rfl⟩
      rw [← zr]
      rw [← zr] at Ar
      refine Run.pure hK (seg := [(44, .dup, 1), (45, .iconst 0, 1), (46, .iload_n 0, 1), (47, .sipush 255, 3), (50, .iand, 1), (51, .i2c, 1)]) (by decide +kernel) (pc' := 52) (L' := #[.val (.int x0), .val (.int n)]) (S' := [(.int (x0 &&& (255 : Int32)).toUInt32.toUInt16.toUInt32.toInt32), (.int (0 : Int32)), (.ref ar), (.ref ar), (.ref ag), (.ref ag)]) rfl ?_
      rw [i2c255]
      refine Run.cst hK Ar ⟨by decide, by decide⟩ (by rw [zr]; exact Nat.le_trans hO.1 Eg.1) (by decide +kernel) (fun hc0 Wc0 B0 => ?_)
      have T0 := ext_wr Er Wc0 (by rw [zr]; exact Nat.le_refl _)
      refine Run.pure hK (seg := [(53, .dup, 1), (54, .iconst 1, 1), (55, .iload_n 0, 1), (56, .bipush 8, 2), (58, .iushr, 1), (59, .sipush 255, 3), (62, .iand, 1), (63, .i2c, 1)]) (by decide +kernel) (pc' := 64) (L' := #[.val (.int x0), .val (.int n)]) (S' := [(.int ((XT.ushr x0 (8 : Int32)) &&& (255 : Int32)).toUInt32.toUInt16.toUInt32.toInt32), (.int (1 : Int32)), (.ref ar), (.ref ar), (.ref ag), (.ref ag)]) rfl ?_
      rw [i2c255]
      refine Run.cst hK B0 ⟨by decide, by decide⟩ (by rw [zr]; exact Nat.le_trans hO.1 Eg.1) (by decide +kernel) (fun hc1 Wc1 B1 => ?_)
      have T1 := ext_wr T0 Wc1 (by rw [zr]; exact Nat.le_refl _)
      have A' : Arv Z hc1 ar kr .char (2 : Int32) (([(x0 &&& (255 : Int32)), (XT.ushr x0 (8 : Int32) &&& (255 : Int32))] : List Int32).map Value.int) (.int 0) := by have q := B1; rw [nc (m255 x0), nc (m255 (XT.ushr x0 8))] at q; exact q
      have hb : ∀ c ∈ ([(x0 &&& (255 : Int32)), (XT.ushr x0 (8 : Int32) &&& (255 : Int32))] : List Int32), ¬ c < 0 ∧ ¬ (255 : Int32) < c := by intro c hc; simp at hc; rcases hc with rfl | rfl; (exact m255 x0); exact m255 _
      have Vs := (Dg (Or.inr (hw _ (List.mem_of_getElem? (i := 20) rfl))) (ty := .array .byte) (by decide)).ext T1
      have Cs := (Dg (Or.inr (hw _ (List.mem_of_getElem? (i := 21) rfl))) (ty := .byte) (by decide)).ext T1
      refine Run.special hK (index := 9) (y := (⟨"java/lang/String", "<init>", "([C)V"⟩ : MethodName)) (Wt := 1) (kc := 4) (ks := 8) rfl (hw _ (List.mem_of_getElem? (i := 8) rfl)) (hw _ (List.mem_of_getElem? (i := 9) rfl)) (hw _ (List.mem_of_getElem? (i := 10) rfl)) (by decide) (a := ag) (fun _ q => q) (cal_newS G (cs := [(x0 &&& (255 : Int32)), (XT.ushr x0 (8 : Int32) &&& (255 : Int32))]) (by rw [zg]; exact hO.1) (List.mem_cons_of_mem _ (List.mem_cons_self ..)) (Xg.ext T1) Vs Cs A' rfl (Nat.le_of_ble_eq_true rfl) hb (by decide) (by decide) (kc := 4) (ks := 8) (by decide) (by decide) (Nat.le_of_ble_eq_true rfl)) rfl (argsL := [(.ref ar)]) (rest := [(.ref ag)]) (lenOf pd_s1 rfl) rfl (Nat.le_of_ble_eq_true rfl) (by decide +kernel) (by decide) (by decide) (fun vt ht qt nt => ?_)
      obtain ⟨rfl, Ft, Kt⟩ := qt
      exact Run.retw hK (i := .areturn) rfl (Or.inr (Or.inr (Or.inr (Or.inr ⟨rfl, rfl, rfl⟩)))) (by decide +kernel) (by decide) (by decide) ⟨ag, rfl, Ft.1, ext_keep (Ext.tr Eg T1) Kt (fun x hx => by cases List.mem_singleton.mp hx; rw [zg]; exact Nat.le_refl _)⟩
    · replace q1 := (h_ne _ _).2 q1
      refine Run.pure hK (seg := [(27, .iload_n 0, 1), (28, .sipush 255, 3), (31, .iand, 1), (32, .i2c, 1)]) (by decide +kernel) (pc' := 33) (L' := #[.val (.int x0), .val (.int n)]) (S' := [(.int (x0 &&& (255 : Int32)).toUInt32.toUInt16.toUInt32.toInt32)]) rfl ?_
      rw [i2c255]
      refine Run.static hK (index := 12) (y := (⟨"java/lang/String", "valueOf", "(C)Ljava/lang/String;"⟩ : MethodName)) (Wt := 0) (kc := 2) (ks := 5) (hw _ (List.mem_of_getElem? (i := 319) rfl)) (hw _ (List.mem_of_getElem? (i := 320) rfl)) (hw _ (List.mem_of_getElem? (i := 6) rfl)) (hw _ (List.mem_of_getElem? (i := 321) rfl)) (by decide) (W' := []) (fun _ q => nomatch q) (Ctr.cal (c_val G _ h (m255 x0)) (hw _ (List.mem_of_getElem? (i := 321) rfl)) (hw _ (List.mem_of_getElem? (i := 6) rfl)) (by decide) (by decide)) rfl (argsL := [(.int (x0 &&& (255 : Int32)))]) (rest := []) (lenOf pd_val rfl) rfl (Nat.le_of_ble_eq_true rfl) (by decide +kernel) (by decide) (by decide) (fun vu hu qu nu => ?_)
      obtain ⟨su, rfl, q⟩ := qu
      exact Run.retw hK (i := .areturn) rfl (Or.inr (Or.inr (Or.inr (Or.inr ⟨rfl, rfl, rfl⟩)))) (by decide +kernel) (by decide) (by decide) ⟨su, rfl, q⟩
  · replace q0 := (h_ne _ _).2 q0
    refine Run.new hK (index := 7) (C := "java/lang/String") (n := 4) (hw _ (List.mem_of_getElem? (i := 4) rfl)) (hw _ (List.mem_of_getElem? (i := 5) rfl)) (hw _ (List.mem_of_getElem? (i := 6) rfl)) (by decide +kernel) (by decide) (by decide) (fun hg Eg Xg Dg => ?_)
    obtain ⟨ag, zg⟩ : ∃ z, z = h.size := ⟨_, rfl⟩
    rw [← zg]
    rw [← zg] at Xg Dg
    refine Run.pure hK (seg := [(14, .dup, 1), (15, .iconst 0, 1)]) (by decide +kernel) (pc' := 16) (L' := #[.val (.int x0), .val (.int n)]) (S' := [(.int (0 : Int32)), (.ref ag), (.ref ag)]) rfl ?_
    refine Run.newarr hK (aty := .char) (hw _ (List.mem_of_getElem? (i := 7) rfl)) (by decide +kernel) (by decide) (cap := 0) (by decide) (by decide) (by decide) (by decide) (fun hr kr Er Ar => ?_)
    obtain ⟨ar, zr⟩ : ∃ z, z = hg.size := ⟨_, rfl⟩
    rw [← zr]
    rw [← zr] at Ar
    have A' : Arv Z hr ar kr .char (0 : Int32) (([] : List Int32).map Value.int) (.int 0) := Ar
    have hb : ∀ c ∈ ([] : List Int32), ¬ c < 0 ∧ ¬ (255 : Int32) < c := fun _ q => nomatch q
    have Vs := (Dg (Or.inr (hw _ (List.mem_of_getElem? (i := 20) rfl))) (ty := .array .byte) (by decide)).ext Er
    have Cs := (Dg (Or.inr (hw _ (List.mem_of_getElem? (i := 21) rfl))) (ty := .byte) (by decide)).ext Er
    refine Run.special hK (index := 9) (y := (⟨"java/lang/String", "<init>", "([C)V"⟩ : MethodName)) (Wt := 1) (kc := 4) (ks := 8) rfl (hw _ (List.mem_of_getElem? (i := 8) rfl)) (hw _ (List.mem_of_getElem? (i := 9) rfl)) (hw _ (List.mem_of_getElem? (i := 10) rfl)) (by decide) (a := ag) (fun _ q => q) (cal_newS G (cs := []) (by rw [zg]; exact hO.1) (List.mem_cons_of_mem _ (List.mem_cons_self ..)) (Xg.ext Er) Vs Cs A' rfl (Nat.le_of_ble_eq_true rfl) hb (by decide) (by decide) (kc := 4) (ks := 8) (by decide) (by decide) (Nat.le_of_ble_eq_true rfl)) rfl (argsL := [(.ref ar)]) (rest := [(.ref ag)]) (lenOf pd_s1 rfl) rfl (Nat.le_of_ble_eq_true rfl) (by decide +kernel) (by decide) (by decide) (fun vt ht qt nt => ?_)
    obtain ⟨rfl, Ft, Kt⟩ := qt
    exact Run.retw hK (i := .areturn) rfl (Or.inr (Or.inr (Or.inr (Or.inr ⟨rfl, rfl, rfl⟩)))) (by decide +kernel) (by decide) (by decide) ⟨ag, rfl, Ft.1, ext_keep (Ext.tr Eg Er) Kt (fun x hx => by cases List.mem_singleton.mp hx; rw [zg]; exact Nat.le_refl _)⟩
set_option maxRecDepth 65536 in
set_option maxHeartbeats 40000000 in
theorem c_pq1 {l : Launch} {Z : State} {a0 : Array Value} {z0 : Int32} {fm : Value} (G : Env1 Z a0 z0 fm) (x0 s1 : Addr) {N1 E0 e0 EM mr : Addr} {k1 k2 : ClassId} (LX : LF Z N1 E0 e0 EM mr k1 k2) (h : Heap) (hx0 : Z.heap.size ≤ x0) (X : Exa Z h x0 "com/example/resolve_place/resolveplace/parser/ParsedQuery") {u1 u2 u3 u4 u5 : Value} (F1 : Fld Z h x0 "com/example/resolve_place/resolveplace/parser/ParsedQuery" "query" "Ljava/lang/String;" u1) (F2 : Fld Z h x0 "com/example/resolve_place/resolveplace/parser/ParsedQuery" "what" "Ljava/lang/String;" u2) (F3 : Fld Z h x0 "com/example/resolve_place/resolveplace/parser/ParsedQuery" "whatType" "Lcom/example/resolve_place/resolveplace/parser/WhatType;" u3) (F4 : Fld Z h x0 "com/example/resolve_place/resolveplace/parser/ParsedQuery" "relation" "Lcom/example/resolve_place/resolveplace/parser/GeoRelation;" u4) (F5 : Fld Z h x0 "com/example/resolve_place/resolveplace/parser/ParsedQuery" "places" "Ljava/util/List;" u5) (XS : Exa Z h s1 "java/lang/String") : Ctr Z consts_1 false l [] (⟨"com/example/resolve_place/resolveplace/parser/ParsedQuery", "<init>", "(Ljava/lang/String;)V"⟩ : MethodName) prog_30_method_2_code 2 none ({ frames := 1, cells := 4, slots := 28, locals := 24 } : Room) #[(.ref x0), (.ref s1)] h [] (fun v h' => v = none ∧ PQo Z h' x0 E0 ∧ Keep h h' [x0]) := by
  obtain ⟨hw, hEL, O2, P5, O4⟩ := id G
  refine Ctr.of_run (a0 := a0) (L0 := #[.val (.ref x0), .val (.ref s1)]) (plainFor_of_name pn_pq) hEL (by first | (simp [argsToLocals, Value.category, maxLocals]; done) | rfl) (fun K hK => ?_)
  have wS := g_wS hw
  have K0 := Keep.refl h [x0]
  refine Run.pure hK (seg := [(0, .aload_n 0, 1)]) (by decide +kernel) (pc' := 1) (L' := #[.val (.ref x0), .val (.ref s1)]) (S' := [(.ref x0)]) rfl ?_
  refine Run.initobj hK (index := 1) (hw _ (List.mem_of_getElem? (i := 35) rfl)) (hw _ (List.mem_of_getElem? (i := 16) rfl)) (hw _ (List.mem_of_getElem? (i := 17) rfl)) rfl (by decide +kernel) (by decide) (Wt := 0) (Nat.le_of_ble_eq_true rfl) (by decide) ?_
  refine Run.pure hK (seg := [(4, .aload_n 0, 1), (5, .aload_n 1, 1)]) (by decide +kernel) (pc' := 6) (L' := #[.val (.ref x0), .val (.ref s1)]) (S' := [(.ref s1), (.ref x0)]) rfl ?_
  refine Run.ldcs hK (index := 20) rfl (text := "query") (hw _ (List.mem_of_getElem? (i := 36) rfl)) wS (by decide) (vs := ((([113, 117, 101, 114, 121] : List Int32).map StrChars.lo8).map Value.int)) (z := (5 : Int32)) (by decide +kernel) (by decide) (by decide +kernel) (by decide +kernel) (n := 20) (by decide) (by decide) (by decide) (by decide) (fun h1 x1 b1 k1 E1 X1 C1 V1 A1 => ?_)
  replace F1 := F1.ext E1
  replace F2 := F2.ext E1
  replace F3 := F3.ext E1
  replace F4 := F4.ext E1
  replace F5 := F5.ext E1
  replace X := X.ext E1
  replace XS := XS.ext E1
  replace K0 := K0.ext E1
  refine Run.static hK (index := 22) (y := (⟨"java/util/Objects", "requireNonNull", "(Ljava/lang/Object;Ljava/lang/String;)Ljava/lang/Object;"⟩ : MethodName)) (Wt := 1) (kc := 0) (ks := 0) (hw _ (List.mem_of_getElem? (i := 37) rfl)) (hw _ (List.mem_of_getElem? (i := 38) rfl)) (hw _ (List.mem_of_getElem? (i := 39) rfl)) (hw _ (List.mem_of_getElem? (i := 40) rfl)) (by decide) (W' := []) (fun _ q => nomatch q) (Ctr.cal (c_rn2 G s1 x1 h1) (hw _ (List.mem_of_getElem? (i := 40) rfl)) (hw _ (List.mem_of_getElem? (i := 39) rfl)) (by decide) (by decide)) rfl (argsL := [(.ref s1), (.ref x1)]) (rest := [(.ref x0)]) (lenOf pd_rn2 rfl) rfl (Nat.le_of_ble_eq_true rfl) (by decide +kernel) (by decide) (by decide) (fun v2 h2 q2 n2 => ?_)
  obtain ⟨rfl, rfl⟩ := q2
  refine Run.cast hK (index := 28) (hw _ (List.mem_of_getElem? (i := 41) rfl)) (Ins.self XS) (by decide +kernel) ?_
  refine Run.putf hK (index := 30) (host := "") (Or.inl (hw _ (List.mem_of_getElem? (i := 42) rfl))) Via.refl F1 X (Or.inr ⟨(hw _ (List.mem_of_getElem? (i := 43) rfl)), rfl, rfl⟩) (hw _ (List.mem_of_getElem? (i := 31) rfl)) (ty := (.object "java/lang/String")) (by decide) rfl rfl hx0 (sfE X (by decide) (by decide)) (by decide +kernel) (fun h3 W3 => ?_)
  replace F1 := F1.same W3
  replace F2 := F2.other W3 (Or.inr (slot_ne (Or.inr (hw _ (List.mem_of_getElem? (i := 46) rfl))) (Or.inr (hw _ (List.mem_of_getElem? (i := 43) rfl))) (by decide) (by decide : parseFieldDescriptor "Ljava/lang/String;" = some (.object "java/lang/String")) (by decide : parseFieldDescriptor "Ljava/lang/String;" = some (.object "java/lang/String"))))
  replace F3 := F3.other W3 (Or.inr (slot_ne (Or.inr (hw _ (List.mem_of_getElem? (i := 48) rfl))) (Or.inr (hw _ (List.mem_of_getElem? (i := 43) rfl))) (by decide) (by decide : parseFieldDescriptor "Lcom/example/resolve_place/resolveplace/parser/WhatType;" = some (.object "com/example/resolve_place/resolveplace/parser/WhatType")) (by decide : parseFieldDescriptor "Ljava/lang/String;" = some (.object "java/lang/String"))))
  replace F4 := F4.other W3 (Or.inr (slot_ne (Or.inr (hw _ (List.mem_of_getElem? (i := 50) rfl))) (Or.inr (hw _ (List.mem_of_getElem? (i := 43) rfl))) (by decide) (by decide : parseFieldDescriptor "Lcom/example/resolve_place/resolveplace/parser/GeoRelation;" = some (.object "com/example/resolve_place/resolveplace/parser/GeoRelation")) (by decide : parseFieldDescriptor "Ljava/lang/String;" = some (.object "java/lang/String"))))
  replace F5 := F5.other W3 (Or.inr (slot_ne (Or.inr (hw _ (List.mem_of_getElem? (i := 58) rfl))) (Or.inr (hw _ (List.mem_of_getElem? (i := 43) rfl))) (by decide) (by decide : parseFieldDescriptor "Ljava/util/List;" = some (.object "java/util/List")) (by decide : parseFieldDescriptor "Ljava/lang/String;" = some (.object "java/lang/String"))))
  replace X := X.wr W3
  replace K0 := K0.wr W3 (Or.inl (List.mem_singleton.mpr rfl))
  refine Run.pure hK (seg := [(17, .aload_n 0, 1)]) (by decide +kernel) (pc' := 18) (L' := #[.val (.ref x0), .val (.ref s1)]) (S' := [(.ref x0)]) rfl ?_
  refine Run.ldcs hK (index := 61) rfl (text := "") (hw _ (List.mem_of_getElem? (i := 44) rfl)) wS (by decide) (vs := []) (z := (0 : Int32)) (by decide +kernel) (by decide) (by decide +kernel) (by decide +kernel) (n := 0) (by decide) (by decide) (by decide) (by decide) (fun h4 x4 b4 k4 E4 X4 C4 V4 A4 => ?_)
  replace F1 := F1.ext E4
  replace F2 := F2.ext E4
  replace F3 := F3.ext E4
  replace F4 := F4.ext E4
  replace F5 := F5.ext E4
  replace X := X.ext E4
  replace K0 := K0.ext E4
  refine Run.putf hK (index := 37) (host := "") (Or.inl (hw _ (List.mem_of_getElem? (i := 45) rfl))) Via.refl F2 X (Or.inr ⟨(hw _ (List.mem_of_getElem? (i := 46) rfl)), rfl, rfl⟩) (hw _ (List.mem_of_getElem? (i := 31) rfl)) (ty := (.object "java/lang/String")) (by decide) rfl rfl hx0 (sfE X (by decide) (by decide)) (by decide +kernel) (fun h5 W5 => ?_)
  replace F1 := F1.other W5 (Or.inr (slot_ne (Or.inr (hw _ (List.mem_of_getElem? (i := 43) rfl))) (Or.inr (hw _ (List.mem_of_getElem? (i := 46) rfl))) (by decide) (by decide : parseFieldDescriptor "Ljava/lang/String;" = some (.object "java/lang/String")) (by decide : parseFieldDescriptor "Ljava/lang/String;" = some (.object "java/lang/String"))))
  replace F2 := F2.same W5
  replace F3 := F3.other W5 (Or.inr (slot_ne (Or.inr (hw _ (List.mem_of_getElem? (i := 48) rfl))) (Or.inr (hw _ (List.mem_of_getElem? (i := 46) rfl))) (by decide) (by decide : parseFieldDescriptor "Lcom/example/resolve_place/resolveplace/parser/WhatType;" = some (.object "com/example/resolve_place/resolveplace/parser/WhatType")) (by decide : parseFieldDescriptor "Ljava/lang/String;" = some (.object "java/lang/String"))))
  replace F4 := F4.other W5 (Or.inr (slot_ne (Or.inr (hw _ (List.mem_of_getElem? (i := 50) rfl))) (Or.inr (hw _ (List.mem_of_getElem? (i := 46) rfl))) (by decide) (by decide : parseFieldDescriptor "Lcom/example/resolve_place/resolveplace/parser/GeoRelation;" = some (.object "com/example/resolve_place/resolveplace/parser/GeoRelation")) (by decide : parseFieldDescriptor "Ljava/lang/String;" = some (.object "java/lang/String"))))
  replace F5 := F5.other W5 (Or.inr (slot_ne (Or.inr (hw _ (List.mem_of_getElem? (i := 58) rfl))) (Or.inr (hw _ (List.mem_of_getElem? (i := 46) rfl))) (by decide) (by decide : parseFieldDescriptor "Ljava/util/List;" = some (.object "java/util/List")) (by decide : parseFieldDescriptor "Ljava/lang/String;" = some (.object "java/lang/String"))))
  replace X := X.wr W5
  replace K0 := K0.wr W5 (Or.inl (List.mem_singleton.mpr rfl))
  refine Run.pure hK (seg := [(23, .aload_n 0, 1), (24, .aconst_null, 1)]) (by decide +kernel) (pc' := 25) (L' := #[.val (.ref x0), .val (.ref s1)]) (S' := [.null, (.ref x0)]) rfl ?_
  refine Run.putf hK (index := 43) (host := "") (Or.inl (hw _ (List.mem_of_getElem? (i := 47) rfl))) Via.refl F3 X (Or.inr ⟨(hw _ (List.mem_of_getElem? (i := 48) rfl)), rfl, rfl⟩) (hw _ (List.mem_of_getElem? (i := 31) rfl)) (ty := (.object "com/example/resolve_place/resolveplace/parser/WhatType")) (by decide) rfl rfl hx0 (sfE X (by decide) (by decide)) (by decide +kernel) (fun h6 W6 => ?_)
  replace F1 := F1.other W6 (Or.inr (slot_ne (Or.inr (hw _ (List.mem_of_getElem? (i := 43) rfl))) (Or.inr (hw _ (List.mem_of_getElem? (i := 48) rfl))) (by decide) (by decide : parseFieldDescriptor "Ljava/lang/String;" = some (.object "java/lang/String")) (by decide : parseFieldDescriptor "Lcom/example/resolve_place/resolveplace/parser/WhatType;" = some (.object "com/example/resolve_place/resolveplace/parser/WhatType"))))
  replace F2 := F2.other W6 (Or.inr (slot_ne (Or.inr (hw _ (List.mem_of_getElem? (i := 46) rfl))) (Or.inr (hw _ (List.mem_of_getElem? (i := 48) rfl))) (by decide) (by decide : parseFieldDescriptor "Ljava/lang/String;" = some (.object "java/lang/String")) (by decide : parseFieldDescriptor "Lcom/example/resolve_place/resolveplace/parser/WhatType;" = some (.object "com/example/resolve_place/resolveplace/parser/WhatType"))))
  replace F3 := F3.same W6
  replace F4 := F4.other W6 (Or.inr (slot_ne (Or.inr (hw _ (List.mem_of_getElem? (i := 50) rfl))) (Or.inr (hw _ (List.mem_of_getElem? (i := 48) rfl))) (by decide) (by decide : parseFieldDescriptor "Lcom/example/resolve_place/resolveplace/parser/GeoRelation;" = some (.object "com/example/resolve_place/resolveplace/parser/GeoRelation")) (by decide : parseFieldDescriptor "Lcom/example/resolve_place/resolveplace/parser/WhatType;" = some (.object "com/example/resolve_place/resolveplace/parser/WhatType"))))
  replace F5 := F5.other W6 (Or.inr (slot_ne (Or.inr (hw _ (List.mem_of_getElem? (i := 58) rfl))) (Or.inr (hw _ (List.mem_of_getElem? (i := 48) rfl))) (by decide) (by decide : parseFieldDescriptor "Ljava/util/List;" = some (.object "java/util/List")) (by decide : parseFieldDescriptor "Lcom/example/resolve_place/resolveplace/parser/WhatType;" = some (.object "com/example/resolve_place/resolveplace/parser/WhatType"))))
  replace X := X.wr W6
  replace K0 := K0.wr W6 (Or.inl (List.mem_singleton.mpr rfl))
  refine Run.pure hK (seg := [(28, .aload_n 0, 1), (29, .aconst_null, 1)]) (by decide +kernel) (pc' := 30) (L' := #[.val (.ref x0), .val (.ref s1)]) (S' := [.null, (.ref x0)]) rfl ?_
  refine Run.putf hK (index := 50) (host := "") (Or.inl (hw _ (List.mem_of_getElem? (i := 49) rfl))) Via.refl F4 X (Or.inr ⟨(hw _ (List.mem_of_getElem? (i := 50) rfl)), rfl, rfl⟩) (hw _ (List.mem_of_getElem? (i := 31) rfl)) (ty := (.object "com/example/resolve_place/resolveplace/parser/GeoRelation")) (by decide) rfl rfl hx0 (sfE X (by decide) (by decide)) (by decide +kernel) (fun h7 W7 => ?_)
  replace F1 := F1.other W7 (Or.inr (slot_ne (Or.inr (hw _ (List.mem_of_getElem? (i := 43) rfl))) (Or.inr (hw _ (List.mem_of_getElem? (i := 50) rfl))) (by decide) (by decide : parseFieldDescriptor "Ljava/lang/String;" = some (.object "java/lang/String")) (by decide : parseFieldDescriptor "Lcom/example/resolve_place/resolveplace/parser/GeoRelation;" = some (.object "com/example/resolve_place/resolveplace/parser/GeoRelation"))))
  replace F2 := F2.other W7 (Or.inr (slot_ne (Or.inr (hw _ (List.mem_of_getElem? (i := 46) rfl))) (Or.inr (hw _ (List.mem_of_getElem? (i := 50) rfl))) (by decide) (by decide : parseFieldDescriptor "Ljava/lang/String;" = some (.object "java/lang/String")) (by decide : parseFieldDescriptor "Lcom/example/resolve_place/resolveplace/parser/GeoRelation;" = some (.object "com/example/resolve_place/resolveplace/parser/GeoRelation"))))
  replace F3 := F3.other W7 (Or.inr (slot_ne (Or.inr (hw _ (List.mem_of_getElem? (i := 48) rfl))) (Or.inr (hw _ (List.mem_of_getElem? (i := 50) rfl))) (by decide) (by decide : parseFieldDescriptor "Lcom/example/resolve_place/resolveplace/parser/WhatType;" = some (.object "com/example/resolve_place/resolveplace/parser/WhatType")) (by decide : parseFieldDescriptor "Lcom/example/resolve_place/resolveplace/parser/GeoRelation;" = some (.object "com/example/resolve_place/resolveplace/parser/GeoRelation"))))
  replace F4 := F4.same W7
  replace F5 := F5.other W7 (Or.inr (slot_ne (Or.inr (hw _ (List.mem_of_getElem? (i := 58) rfl))) (Or.inr (hw _ (List.mem_of_getElem? (i := 50) rfl))) (by decide) (by decide : parseFieldDescriptor "Ljava/util/List;" = some (.object "java/util/List")) (by decide : parseFieldDescriptor "Lcom/example/resolve_place/resolveplace/parser/GeoRelation;" = some (.object "com/example/resolve_place/resolveplace/parser/GeoRelation"))))
  replace X := X.wr W7
  replace K0 := K0.wr W7 (Or.inl (List.mem_singleton.mpr rfl))
  refine Run.pure hK (seg := [(33, .aload_n 0, 1)]) (by decide +kernel) (pc' := 34) (L' := #[.val (.ref x0), .val (.ref s1)]) (S' := [(.ref x0)]) rfl ?_
  refine Run.static hK (index := 63) (y := (⟨"java/util/List", "of", "()Ljava/util/List;"⟩ : MethodName)) (Wt := 1) (kc := 0) (ks := 0) (hw _ (List.mem_of_getElem? (i := 51) rfl)) (hw _ (List.mem_of_getElem? (i := 52) rfl)) (hw _ (List.mem_of_getElem? (i := 53) rfl)) (hw _ (List.mem_of_getElem? (i := 54) rfl)) (by decide) (W' := []) (fun _ q => nomatch q) (Ctr.cal (c_lof G LX h7) (hw _ (List.mem_of_getElem? (i := 54) rfl)) (hw _ (List.mem_of_getElem? (i := 53) rfl)) (by decide) (by decide)) rfl (argsL := []) (rest := [(.ref x0)]) (lenOf pd_lo rfl) rfl (Nat.le_of_ble_eq_true rfl) (by decide +kernel) (by decide) (by decide) (fun v8 h8 q8 n8 => ?_)
  obtain ⟨rfl, rfl⟩ := q8
  refine Run.putf hK (index := 57) (host := "") (Or.inl (hw _ (List.mem_of_getElem? (i := 57) rfl))) Via.refl F5 X (Or.inr ⟨(hw _ (List.mem_of_getElem? (i := 58) rfl)), rfl, rfl⟩) (hw _ (List.mem_of_getElem? (i := 31) rfl)) (ty := (.object "java/util/List")) (by decide) rfl rfl hx0 (sfE X (by decide) (by decide)) (by decide +kernel) (fun h9 W9 => ?_)
  replace F1 := F1.other W9 (Or.inr (slot_ne (Or.inr (hw _ (List.mem_of_getElem? (i := 43) rfl))) (Or.inr (hw _ (List.mem_of_getElem? (i := 58) rfl))) (by decide) (by decide : parseFieldDescriptor "Ljava/lang/String;" = some (.object "java/lang/String")) (by decide : parseFieldDescriptor "Ljava/util/List;" = some (.object "java/util/List"))))
  replace F2 := F2.other W9 (Or.inr (slot_ne (Or.inr (hw _ (List.mem_of_getElem? (i := 46) rfl))) (Or.inr (hw _ (List.mem_of_getElem? (i := 58) rfl))) (by decide) (by decide : parseFieldDescriptor "Ljava/lang/String;" = some (.object "java/lang/String")) (by decide : parseFieldDescriptor "Ljava/util/List;" = some (.object "java/util/List"))))
  replace F3 := F3.other W9 (Or.inr (slot_ne (Or.inr (hw _ (List.mem_of_getElem? (i := 48) rfl))) (Or.inr (hw _ (List.mem_of_getElem? (i := 58) rfl))) (by decide) (by decide : parseFieldDescriptor "Lcom/example/resolve_place/resolveplace/parser/WhatType;" = some (.object "com/example/resolve_place/resolveplace/parser/WhatType")) (by decide : parseFieldDescriptor "Ljava/util/List;" = some (.object "java/util/List"))))
  replace F4 := F4.other W9 (Or.inr (slot_ne (Or.inr (hw _ (List.mem_of_getElem? (i := 50) rfl))) (Or.inr (hw _ (List.mem_of_getElem? (i := 58) rfl))) (by decide) (by decide : parseFieldDescriptor "Lcom/example/resolve_place/resolveplace/parser/GeoRelation;" = some (.object "com/example/resolve_place/resolveplace/parser/GeoRelation")) (by decide : parseFieldDescriptor "Ljava/util/List;" = some (.object "java/util/List"))))
  replace F5 := F5.same W9
  replace X := X.wr W9
  replace K0 := K0.wr W9 (Or.inl (List.mem_singleton.mpr rfl))
  exact Run.retv hK (by decide +kernel) (by decide) (by decide) ⟨rfl, ⟨X, F5⟩, K0⟩
set_option maxRecDepth 65536 in
set_option maxHeartbeats 40000000 in
theorem c_nl {l : Launch} {Z : State} {a0 : Array Value} {z0 : Int32} {fm : Value} (G : Env1 Z a0 z0 fm) (s1 : Addr) {N1 E0 e0 EM mr : Addr} {k1 k2 : ClassId} (LX : LF Z N1 E0 e0 EM mr k1 k2) (h : Heap) (XS : Exa Z h s1 "java/lang/String") : Ctr Z consts_1 false l [] (⟨"com/example/resolve_place/resolveplace/parser/ParsedQuery", "notLocal", "(Ljava/lang/String;)Lcom/example/resolve_place/resolveplace/parser/ParsedQuery;"⟩ : MethodName) prog_30_method_3_code 1 (some (.object "com/example/resolve_place/resolveplace/parser/ParsedQuery")) ({ frames := 2, cells := 5, slots := 33, locals := 44 } : Room) #[(.ref s1)] h [] (fun v h' => ∃ a, v = some (.ref a) ∧ PQo Z h' a E0 ∧ Ext h h') := by
  obtain ⟨hw, hEL, O2, P5, O4⟩ := id G
  refine Ctr.of_run (a0 := a0) (L0 := #[.val (.ref s1)]) (plainFor_of_name pn_pq) hEL (by first | (simp [argsToLocals, Value.category, maxLocals]; done) | rfl) (fun K hK => ?_)
  refine Run.old (fun hO => ?_)
  refine Run.new hK (index := 31) (C := "com/example/resolve_place/resolveplace/parser/ParsedQuery") (n := 5) (hw _ (List.mem_of_getElem? (i := 30) rfl)) (hw _ (List.mem_of_getElem? (i := 31) rfl)) (hw _ (List.mem_of_getElem? (i := 28) rfl)) (by decide +kernel) (by decide) (by decide) (fun hp Ep Xp Dp => ?_)
  obtain ⟨ap, zp⟩ : ∃ z, z = h.size := ⟨_, rfl⟩
  rw [← zp]
  rw [← zp] at Xp Dp
  refine Run.pure hK (seg := [(3, .dup, 1), (4, .aload_n 0, 1)]) (by decide +kernel) (pc' := 5) (L' := #[.val (.ref s1)]) (S' := [(.ref s1), (.ref ap), (.ref ap)]) rfl ?_
  refine Run.special hK (index := 67) (y := (⟨"com/example/resolve_place/resolveplace/parser/ParsedQuery", "<init>", "(Ljava/lang/String;)V"⟩ : MethodName)) (Wt := 1) (kc := 4) (ks := 28) rfl (hw _ (List.mem_of_getElem? (i := 32) rfl)) (hw _ (List.mem_of_getElem? (i := 33) rfl)) (hw _ (List.mem_of_getElem? (i := 34) rfl)) (by decide) (a := ap) (W' := []) (fun _ q => nomatch q) (Ctr.cal (c_pq1 G ap s1 LX hp (by rw [zp]; exact hO.1) Xp (Dp (Or.inr (hw _ (List.mem_of_getElem? (i := 43) rfl))) (ty := (.object "java/lang/String")) (by decide)) (Dp (Or.inr (hw _ (List.mem_of_getElem? (i := 46) rfl))) (ty := (.object "java/lang/String")) (by decide)) (Dp (Or.inr (hw _ (List.mem_of_getElem? (i := 48) rfl))) (ty := (.object "com/example/resolve_place/resolveplace/parser/WhatType")) (by decide)) (Dp (Or.inr (hw _ (List.mem_of_getElem? (i := 50) rfl))) (ty := (.object "com/example/resolve_place/resolveplace/parser/GeoRelation")) (by decide)) (Dp (Or.inr (hw _ (List.mem_of_getElem? (i := 58) rfl))) (ty := (.object "java/util/List")) (by decide)) (XS.ext Ep)) (hw _ (List.mem_of_getElem? (i := 34) rfl)) (hw _ (List.mem_of_getElem? (i := 28) rfl)) (by decide) (by decide)) rfl (argsL := [(.ref s1)]) (rest := [(.ref ap)]) (lenOf pd_pq1 rfl) rfl (Nat.le_of_ble_eq_true rfl) (by decide +kernel) (by decide) (by decide) (fun v1 h1 q1 n1 => ?_)
  obtain ⟨rfl, P1, K1⟩ := q1
  exact Run.retw hK (i := .areturn) rfl (Or.inr (Or.inr (Or.inr (Or.inr ⟨rfl, rfl, rfl⟩)))) (by decide +kernel) (by decide) (by decide) ⟨ap, rfl, P1, ext_keep Ep K1 (fun x hx => by cases List.mem_singleton.mp hx; rw [zp]; exact Nat.le_refl _)⟩
set_option maxRecDepth 65536 in
set_option maxHeartbeats 40000000 in
theorem c_pq51 {l : Launch} {Z : State} {a0 : Array Value} {z0 : Int32} {fm : Value} (G : Env1 Z a0 z0 fm) (x0 s1 s2 s3 s4 xl ar : Addr) {k : ClassId} (e1 : Addr) {N1 E0 e0 EM mr : Addr} {k1 k2 : ClassId} (LX : LF Z N1 E0 e0 EM mr k1 k2) (h : Heap) (hx0 : Z.heap.size ≤ x0) (X : Exa Z h x0 "com/example/resolve_place/resolveplace/parser/ParsedQuery") {u1 u2 u3 u4 u5 : Value} (F1 : Fld Z h x0 "com/example/resolve_place/resolveplace/parser/ParsedQuery" "query" "Ljava/lang/String;" u1) (F2 : Fld Z h x0 "com/example/resolve_place/resolveplace/parser/ParsedQuery" "what" "Ljava/lang/String;" u2) (F3 : Fld Z h x0 "com/example/resolve_place/resolveplace/parser/ParsedQuery" "whatType" "Lcom/example/resolve_place/resolveplace/parser/WhatType;" u3) (F4 : Fld Z h x0 "com/example/resolve_place/resolveplace/parser/ParsedQuery" "relation" "Lcom/example/resolve_place/resolveplace/parser/GeoRelation;" u4) (F5 : Fld Z h x0 "com/example/resolve_place/resolveplace/parser/ParsedQuery" "places" "Ljava/util/List;" u5) (Al : ALo Z h xl ar k [e1]) (XI1 : Exa Z h e1 "java/lang/Integer") (XS1 : Exa Z h s1 "java/lang/String") (XS2 : Exa Z h s2 "java/lang/String") (XS3 : Exa Z h s3 "com/example/resolve_place/resolveplace/parser/WhatType") (XS4 : Exa Z h s4 "com/example/resolve_place/resolveplace/parser/GeoRelation") : Ctr Z consts_1 false l [] (⟨"com/example/resolve_place/resolveplace/parser/ParsedQuery", "<init>", "(Ljava/lang/String;Ljava/lang/String;Lcom/example/resolve_place/resolveplace/parser/WhatType;Lcom/example/resolve_place/resolveplace/parser/GeoRelation;Ljava/util/List;)V"⟩ : MethodName) prog_30_method_1_code 6 none ({ frames := 9, cells := 11, slots := 122, locals := 140 } : Room) #[(.ref x0), (.ref s1), (.ref s2), (.ref s3), (.ref s4), (.ref xl)] h [] (fun v h' => v = none ∧ ∃ p, PQo Z h' x0 p ∧ Pl Z h' p EM (1 : Int32)) := by
  obtain ⟨hw, hEL, O2, P5, O4⟩ := id G
  refine Ctr.of_run (a0 := a0) (L0 := #[.val (.ref x0), .val (.ref s1), .val (.ref s2), .val (.ref s3), .val (.ref s4), .val (.ref xl)]) (plainFor_of_name pn_pq) hEL (by first | (simp [argsToLocals, Value.category, maxLocals]; done) | rfl) (fun K hK => ?_)
  have wS := g_wS hw
  have n1 : xl ≠ x0 := Al.1.ne X (by decide)
  have n2 : ar ≠ x0 := (X.neArv Al.2.2.2.2.1 (hw _ (List.mem_of_getElem? (i := 31) rfl))).symm
  refine Run.pure hK (seg := [(0, .aload_n 0, 1)]) (by decide +kernel) (pc' := 1) (L' := #[.val (.ref x0), .val (.ref s1), .val (.ref s2), .val (.ref s3), .val (.ref s4), .val (.ref xl)]) (S' := [(.ref x0)]) rfl ?_
  refine Run.initobj hK (index := 1) (hw _ (List.mem_of_getElem? (i := 35) rfl)) (hw _ (List.mem_of_getElem? (i := 16) rfl)) (hw _ (List.mem_of_getElem? (i := 17) rfl)) rfl (by decide +kernel) (by decide) (Wt := 0) (Nat.le_of_ble_eq_true rfl) (by decide) ?_
  refine Run.pure hK (seg := [(4, .aload 5, 2)]) (by decide +kernel) (pc' := 6) (L' := #[.val (.ref x0), .val (.ref s1), .val (.ref s2), .val (.ref s3), .val (.ref s4), .val (.ref xl)]) (S' := [(.ref xl)]) rfl ?_
  refine Run.iface hK (index := 7) (count := 1) (y := (⟨"java/util/List", "isEmpty", "()Z"⟩ : MethodName)) (z := (⟨"java/util/ArrayList", "isEmpty", "()Z"⟩ : MethodName)) (C := "java/util/ArrayList") (Wt := 0) (kc := 0) (ks := 0) (fun _ _ z => mv z (hw _ (List.mem_of_getElem? (i := 64) rfl))) (fun _ _ z => mv z (hw _ (List.mem_of_getElem? (i := 65) rfl))) (fun _ _ z => mv z (hw _ (List.mem_of_getElem? (i := 66) rfl))) (fun _ _ z => mv z (hw _ (List.mem_of_getElem? (i := 171) rfl))) (fun _ _ z => mv z (hw _ (List.mem_of_getElem? (i := 172) rfl))) (fun _ _ z => mv z (hw _ (List.mem_of_getElem? (i := 173) rfl))) (fun _ _ z => mv z (hw _ (List.mem_of_getElem? (i := 174) rfl))) (fun _ _ z => mv z (hw _ (List.mem_of_getElem? (i := 175) rfl))) (by decide) (a := xl) Al.1 (W' := []) (fun _ q => nomatch q) (Ctr.cal (len := 5) (c_ais G xl ar h Al (by simp) (by simp)) (hw _ (List.mem_of_getElem? (i := 176) rfl)) (hw _ (List.mem_of_getElem? (i := 93) rfl)) (by decide) (by decide)) rfl (argsL := []) (rest := []) (lenOf pd_z rfl) rfl (Nat.le_of_ble_eq_true rfl) (by decide +kernel) (by decide) (by decide) (fun v0 h0 q0 n0 => ?_)
  obtain ⟨rfl, rfl⟩ := q0
  refine Run.ifz hK (cd := .eq) (o := 13) (by decide +kernel) (by decide) (pc' := 24) rfl (fun _ => ?_) (fun q => by replace q := (h_eq _ _).2 q; exact absurd rfl q)
  refine Run.pure hK (seg := [(24, .aload_n 0, 1), (25, .aload_n 1, 1)]) (by decide +kernel) (pc' := 26) (L' := #[.val (.ref x0), .val (.ref s1), .val (.ref s2), .val (.ref s3), .val (.ref s4), .val (.ref xl)]) (S' := [(.ref s1), (.ref x0)]) rfl ?_
  refine Run.ldcs hK (index := 20) rfl (text := "query") (hw _ (List.mem_of_getElem? (i := 36) rfl)) wS (by decide) (vs := ((([113, 117, 101, 114, 121] : List Int32).map StrChars.lo8).map Value.int)) (z := (5 : Int32)) (by decide +kernel) (by decide) (by decide +kernel) (by decide +kernel) (n := 20) (by decide) (by decide) (by decide) (by decide) (fun hl1 xl1 bl1 kl1 El1 Xl1 Cl1 Vl1 Al1 => ?_)
  replace F1 := F1.ext El1
  replace F2 := F2.ext El1
  replace F3 := F3.ext El1
  replace F4 := F4.ext El1
  replace F5 := F5.ext El1
  replace X := X.ext El1
  replace Al := Al.ext El1
  replace XI1 := XI1.ext El1
  replace XS1 := XS1.ext El1
  replace XS2 := XS2.ext El1
  replace XS3 := XS3.ext El1
  replace XS4 := XS4.ext El1
  refine Run.static hK (index := 22) (y := (⟨"java/util/Objects", "requireNonNull", "(Ljava/lang/Object;Ljava/lang/String;)Ljava/lang/Object;"⟩ : MethodName)) (Wt := 1) (kc := 0) (ks := 0) (hw _ (List.mem_of_getElem? (i := 37) rfl)) (hw _ (List.mem_of_getElem? (i := 38) rfl)) (hw _ (List.mem_of_getElem? (i := 39) rfl)) (hw _ (List.mem_of_getElem? (i := 40) rfl)) (by decide) (W' := []) (fun _ q => nomatch q) (Ctr.cal (c_rn2 G s1 xl1 hl1) (hw _ (List.mem_of_getElem? (i := 40) rfl)) (hw _ (List.mem_of_getElem? (i := 39) rfl)) (by decide) (by decide)) rfl (argsL := [(.ref s1), (.ref xl1)]) (rest := [(.ref x0)]) (lenOf pd_rn2 rfl) rfl (Nat.le_of_ble_eq_true rfl) (by decide +kernel) (by decide) (by decide) (fun vr1 hr1 qr1 nr1 => ?_)
  obtain ⟨rfl, rfl⟩ := qr1
  refine Run.cast hK (index := 28) (hw _ (List.mem_of_getElem? (i := 41) rfl)) (Ins.self XS1) (by decide +kernel) ?_
  refine Run.putf hK (index := 30) (host := "") (Or.inl (hw _ (List.mem_of_getElem? (i := 42) rfl))) Via.refl F1 X (Or.inr ⟨(hw _ (List.mem_of_getElem? (i := 43) rfl)), rfl, rfl⟩) (hw _ (List.mem_of_getElem? (i := 31) rfl)) (ty := (.object "java/lang/String")) (by decide) rfl rfl hx0 (sfE X (by decide) (by decide)) (by decide +kernel) (fun hw1 Ww1 => ?_)
  replace F1 := F1.same Ww1
  replace F2 := F2.other Ww1 (Or.inr (slot_ne (Or.inr (hw _ (List.mem_of_getElem? (i := 46) rfl))) (Or.inr (hw _ (List.mem_of_getElem? (i := 43) rfl))) (by decide) (by decide : parseFieldDescriptor "Ljava/lang/String;" = some (.object "java/lang/String")) (by decide : parseFieldDescriptor "Ljava/lang/String;" = some (.object "java/lang/String"))))
  replace F3 := F3.other Ww1 (Or.inr (slot_ne (Or.inr (hw _ (List.mem_of_getElem? (i := 48) rfl))) (Or.inr (hw _ (List.mem_of_getElem? (i := 43) rfl))) (by decide) (by decide : parseFieldDescriptor "Lcom/example/resolve_place/resolveplace/parser/WhatType;" = some (.object "com/example/resolve_place/resolveplace/parser/WhatType")) (by decide : parseFieldDescriptor "Ljava/lang/String;" = some (.object "java/lang/String"))))
  replace F4 := F4.other Ww1 (Or.inr (slot_ne (Or.inr (hw _ (List.mem_of_getElem? (i := 50) rfl))) (Or.inr (hw _ (List.mem_of_getElem? (i := 43) rfl))) (by decide) (by decide : parseFieldDescriptor "Lcom/example/resolve_place/resolveplace/parser/GeoRelation;" = some (.object "com/example/resolve_place/resolveplace/parser/GeoRelation")) (by decide : parseFieldDescriptor "Ljava/lang/String;" = some (.object "java/lang/String"))))
  replace F5 := F5.other Ww1 (Or.inr (slot_ne (Or.inr (hw _ (List.mem_of_getElem? (i := 58) rfl))) (Or.inr (hw _ (List.mem_of_getElem? (i := 43) rfl))) (by decide) (by decide : parseFieldDescriptor "Ljava/util/List;" = some (.object "java/util/List")) (by decide : parseFieldDescriptor "Ljava/lang/String;" = some (.object "java/lang/String"))))
  replace X := X.wr Ww1
  replace Al := Al.wr Ww1 n1 n2
  replace XI1 := XI1.wr Ww1
  replace XS1 := XS1.wr Ww1
  replace XS2 := XS2.wr Ww1
  replace XS3 := XS3.wr Ww1
  replace XS4 := XS4.wr Ww1
  refine Run.pure hK (seg := [(37, .aload_n 0, 1), (38, .aload_n 2, 1)]) (by decide +kernel) (pc' := 39) (L' := #[.val (.ref x0), .val (.ref s1), .val (.ref s2), .val (.ref s3), .val (.ref s4), .val (.ref xl)]) (S' := [(.ref s2), (.ref x0)]) rfl ?_
  refine Run.ldcs hK (index := 35) rfl (text := "what") (hw _ (List.mem_of_getElem? (i := 177) rfl)) wS (by decide) (vs := ((([119, 104, 97, 116] : List Int32).map StrChars.lo8).map Value.int)) (z := (4 : Int32)) (by decide +kernel) (by decide) (by decide +kernel) (by decide +kernel) (n := 16) (by decide) (by decide) (by decide) (by decide) (fun hl2 xl2 bl2 kl2 El2 Xl2 Cl2 Vl2 Al2 => ?_)
  replace F1 := F1.ext El2
  replace F2 := F2.ext El2
  replace F3 := F3.ext El2
  replace F4 := F4.ext El2
  replace F5 := F5.ext El2
  replace X := X.ext El2
  replace Al := Al.ext El2
  replace XI1 := XI1.ext El2
  replace XS1 := XS1.ext El2
  replace XS2 := XS2.ext El2
  replace XS3 := XS3.ext El2
  replace XS4 := XS4.ext El2
  refine Run.static hK (index := 22) (y := (⟨"java/util/Objects", "requireNonNull", "(Ljava/lang/Object;Ljava/lang/String;)Ljava/lang/Object;"⟩ : MethodName)) (Wt := 1) (kc := 0) (ks := 0) (hw _ (List.mem_of_getElem? (i := 37) rfl)) (hw _ (List.mem_of_getElem? (i := 38) rfl)) (hw _ (List.mem_of_getElem? (i := 39) rfl)) (hw _ (List.mem_of_getElem? (i := 40) rfl)) (by decide) (W' := []) (fun _ q => nomatch q) (Ctr.cal (c_rn2 G s2 xl2 hl2) (hw _ (List.mem_of_getElem? (i := 40) rfl)) (hw _ (List.mem_of_getElem? (i := 39) rfl)) (by decide) (by decide)) rfl (argsL := [(.ref s2), (.ref xl2)]) (rest := [(.ref x0)]) (lenOf pd_rn2 rfl) rfl (Nat.le_of_ble_eq_true rfl) (by decide +kernel) (by decide) (by decide) (fun vr2 hr2 qr2 nr2 => ?_)
  obtain ⟨rfl, rfl⟩ := qr2
  refine Run.cast hK (index := 28) (hw _ (List.mem_of_getElem? (i := 41) rfl)) (Ins.self XS2) (by decide +kernel) ?_
  refine Run.putf hK (index := 37) (host := "") (Or.inl (hw _ (List.mem_of_getElem? (i := 45) rfl))) Via.refl F2 X (Or.inr ⟨(hw _ (List.mem_of_getElem? (i := 46) rfl)), rfl, rfl⟩) (hw _ (List.mem_of_getElem? (i := 31) rfl)) (ty := (.object "java/lang/String")) (by decide) rfl rfl hx0 (sfE X (by decide) (by decide)) (by decide +kernel) (fun hw2 Ww2 => ?_)
  replace F1 := F1.other Ww2 (Or.inr (slot_ne (Or.inr (hw _ (List.mem_of_getElem? (i := 43) rfl))) (Or.inr (hw _ (List.mem_of_getElem? (i := 46) rfl))) (by decide) (by decide : parseFieldDescriptor "Ljava/lang/String;" = some (.object "java/lang/String")) (by decide : parseFieldDescriptor "Ljava/lang/String;" = some (.object "java/lang/String"))))
  replace F2 := F2.same Ww2
  replace F3 := F3.other Ww2 (Or.inr (slot_ne (Or.inr (hw _ (List.mem_of_getElem? (i := 48) rfl))) (Or.inr (hw _ (List.mem_of_getElem? (i := 46) rfl))) (by decide) (by decide : parseFieldDescriptor "Lcom/example/resolve_place/resolveplace/parser/WhatType;" = some (.object "com/example/resolve_place/resolveplace/parser/WhatType")) (by decide : parseFieldDescriptor "Ljava/lang/String;" = some (.object "java/lang/String"))))
  replace F4 := F4.other Ww2 (Or.inr (slot_ne (Or.inr (hw _ (List.mem_of_getElem? (i := 50) rfl))) (Or.inr (hw _ (List.mem_of_getElem? (i := 46) rfl))) (by decide) (by decide : parseFieldDescriptor "Lcom/example/resolve_place/resolveplace/parser/GeoRelation;" = some (.object "com/example/resolve_place/resolveplace/parser/GeoRelation")) (by decide : parseFieldDescriptor "Ljava/lang/String;" = some (.object "java/lang/String"))))
  replace F5 := F5.other Ww2 (Or.inr (slot_ne (Or.inr (hw _ (List.mem_of_getElem? (i := 58) rfl))) (Or.inr (hw _ (List.mem_of_getElem? (i := 46) rfl))) (by decide) (by decide : parseFieldDescriptor "Ljava/util/List;" = some (.object "java/util/List")) (by decide : parseFieldDescriptor "Ljava/lang/String;" = some (.object "java/lang/String"))))
  replace X := X.wr Ww2
  replace Al := Al.wr Ww2 n1 n2
  replace XI1 := XI1.wr Ww2
  replace XS1 := XS1.wr Ww2
  replace XS2 := XS2.wr Ww2
  replace XS3 := XS3.wr Ww2
  replace XS4 := XS4.wr Ww2
  refine Run.pure hK (seg := [(50, .aload_n 0, 1), (51, .aload_n 3, 1)]) (by decide +kernel) (pc' := 52) (L' := #[.val (.ref x0), .val (.ref s1), .val (.ref s2), .val (.ref s3), .val (.ref s4), .val (.ref xl)]) (S' := [(.ref s3), (.ref x0)]) rfl ?_
  refine Run.ldcs hK (index := 39) rfl (text := "whatType") (hw _ (List.mem_of_getElem? (i := 178) rfl)) wS (by decide) (vs := ((([119, 104, 97, 116, 84, 121, 112, 101] : List Int32).map StrChars.lo8).map Value.int)) (z := (8 : Int32)) (by decide +kernel) (by decide) (by decide +kernel) (by decide +kernel) (n := 32) (by decide) (by decide) (by decide) (by decide) (fun hl3 xl3 bl3 kl3 El3 Xl3 Cl3 Vl3 Al3 => ?_)
  replace F1 := F1.ext El3
  replace F2 := F2.ext El3
  replace F3 := F3.ext El3
  replace F4 := F4.ext El3
  replace F5 := F5.ext El3
  replace X := X.ext El3
  replace Al := Al.ext El3
  replace XI1 := XI1.ext El3
  replace XS1 := XS1.ext El3
  replace XS2 := XS2.ext El3
  replace XS3 := XS3.ext El3
  replace XS4 := XS4.ext El3
  refine Run.static hK (index := 22) (y := (⟨"java/util/Objects", "requireNonNull", "(Ljava/lang/Object;Ljava/lang/String;)Ljava/lang/Object;"⟩ : MethodName)) (Wt := 1) (kc := 0) (ks := 0) (hw _ (List.mem_of_getElem? (i := 37) rfl)) (hw _ (List.mem_of_getElem? (i := 38) rfl)) (hw _ (List.mem_of_getElem? (i := 39) rfl)) (hw _ (List.mem_of_getElem? (i := 40) rfl)) (by decide) (W' := []) (fun _ q => nomatch q) (Ctr.cal (c_rn2 G s3 xl3 hl3) (hw _ (List.mem_of_getElem? (i := 40) rfl)) (hw _ (List.mem_of_getElem? (i := 39) rfl)) (by decide) (by decide)) rfl (argsL := [(.ref s3), (.ref xl3)]) (rest := [(.ref x0)]) (lenOf pd_rn2 rfl) rfl (Nat.le_of_ble_eq_true rfl) (by decide +kernel) (by decide) (by decide) (fun vr3 hr3 qr3 nr3 => ?_)
  obtain ⟨rfl, rfl⟩ := qr3
  refine Run.cast hK (index := 41) (hw _ (List.mem_of_getElem? (i := 179) rfl)) (Ins.self XS3) (by decide +kernel) ?_
  refine Run.putf hK (index := 43) (host := "") (Or.inl (hw _ (List.mem_of_getElem? (i := 47) rfl))) Via.refl F3 X (Or.inr ⟨(hw _ (List.mem_of_getElem? (i := 48) rfl)), rfl, rfl⟩) (hw _ (List.mem_of_getElem? (i := 31) rfl)) (ty := (.object "com/example/resolve_place/resolveplace/parser/WhatType")) (by decide) rfl rfl hx0 (sfE X (by decide) (by decide)) (by decide +kernel) (fun hw3 Ww3 => ?_)
  replace F1 := F1.other Ww3 (Or.inr (slot_ne (Or.inr (hw _ (List.mem_of_getElem? (i := 43) rfl))) (Or.inr (hw _ (List.mem_of_getElem? (i := 48) rfl))) (by decide) (by decide : parseFieldDescriptor "Ljava/lang/String;" = some (.object "java/lang/String")) (by decide : parseFieldDescriptor "Lcom/example/resolve_place/resolveplace/parser/WhatType;" = some (.object "com/example/resolve_place/resolveplace/parser/WhatType"))))
  replace F2 := F2.other Ww3 (Or.inr (slot_ne (Or.inr (hw _ (List.mem_of_getElem? (i := 46) rfl))) (Or.inr (hw _ (List.mem_of_getElem? (i := 48) rfl))) (by decide) (by decide : parseFieldDescriptor "Ljava/lang/String;" = some (.object "java/lang/String")) (by decide : parseFieldDescriptor "Lcom/example/resolve_place/resolveplace/parser/WhatType;" = some (.object "com/example/resolve_place/resolveplace/parser/WhatType"))))
  replace F3 := F3.same Ww3
  replace F4 := F4.other Ww3 (Or.inr (slot_ne (Or.inr (hw _ (List.mem_of_getElem? (i := 50) rfl))) (Or.inr (hw _ (List.mem_of_getElem? (i := 48) rfl))) (by decide) (by decide : parseFieldDescriptor "Lcom/example/resolve_place/resolveplace/parser/GeoRelation;" = some (.object "com/example/resolve_place/resolveplace/parser/GeoRelation")) (by decide : parseFieldDescriptor "Lcom/example/resolve_place/resolveplace/parser/WhatType;" = some (.object "com/example/resolve_place/resolveplace/parser/WhatType"))))
  replace F5 := F5.other Ww3 (Or.inr (slot_ne (Or.inr (hw _ (List.mem_of_getElem? (i := 58) rfl))) (Or.inr (hw _ (List.mem_of_getElem? (i := 48) rfl))) (by decide) (by decide : parseFieldDescriptor "Ljava/util/List;" = some (.object "java/util/List")) (by decide : parseFieldDescriptor "Lcom/example/resolve_place/resolveplace/parser/WhatType;" = some (.object "com/example/resolve_place/resolveplace/parser/WhatType"))))
  replace X := X.wr Ww3
  replace Al := Al.wr Ww3 n1 n2
  replace XI1 := XI1.wr Ww3
  replace XS1 := XS1.wr Ww3
  replace XS2 := XS2.wr Ww3
  replace XS3 := XS3.wr Ww3
  replace XS4 := XS4.wr Ww3
  refine Run.pure hK (seg := [(63, .aload_n 0, 1), (64, .aload 4, 2)]) (by decide +kernel) (pc' := 66) (L' := #[.val (.ref x0), .val (.ref s1), .val (.ref s2), .val (.ref s3), .val (.ref s4), .val (.ref xl)]) (S' := [(.ref s4), (.ref x0)]) rfl ?_
  refine Run.ldcs hK (index := 46) rfl (text := "relation") (hw _ (List.mem_of_getElem? (i := 181) rfl)) wS (by decide) (vs := ((([114, 101, 108, 97, 116, 105, 111, 110] : List Int32).map StrChars.lo8).map Value.int)) (z := (8 : Int32)) (by decide +kernel) (by decide) (by decide +kernel) (by decide +kernel) (n := 32) (by decide) (by decide) (by decide) (by decide) (fun hl4 xl4 bl4 kl4 El4 Xl4 Cl4 Vl4 Al4 => ?_)
  replace F1 := F1.ext El4
  replace F2 := F2.ext El4
  replace F3 := F3.ext El4
  replace F4 := F4.ext El4
  replace F5 := F5.ext El4
  replace X := X.ext El4
  replace Al := Al.ext El4
  replace XI1 := XI1.ext El4
  replace XS1 := XS1.ext El4
  replace XS2 := XS2.ext El4
  replace XS3 := XS3.ext El4
  replace XS4 := XS4.ext El4
  refine Run.static hK (index := 22) (y := (⟨"java/util/Objects", "requireNonNull", "(Ljava/lang/Object;Ljava/lang/String;)Ljava/lang/Object;"⟩ : MethodName)) (Wt := 1) (kc := 0) (ks := 0) (hw _ (List.mem_of_getElem? (i := 37) rfl)) (hw _ (List.mem_of_getElem? (i := 38) rfl)) (hw _ (List.mem_of_getElem? (i := 39) rfl)) (hw _ (List.mem_of_getElem? (i := 40) rfl)) (by decide) (W' := []) (fun _ q => nomatch q) (Ctr.cal (c_rn2 G s4 xl4 hl4) (hw _ (List.mem_of_getElem? (i := 40) rfl)) (hw _ (List.mem_of_getElem? (i := 39) rfl)) (by decide) (by decide)) rfl (argsL := [(.ref s4), (.ref xl4)]) (rest := [(.ref x0)]) (lenOf pd_rn2 rfl) rfl (Nat.le_of_ble_eq_true rfl) (by decide +kernel) (by decide) (by decide) (fun vr4 hr4 qr4 nr4 => ?_)
  obtain ⟨rfl, rfl⟩ := qr4
  refine Run.cast hK (index := 48) (hw _ (List.mem_of_getElem? (i := 182) rfl)) (Ins.self XS4) (by decide +kernel) ?_
  refine Run.putf hK (index := 50) (host := "") (Or.inl (hw _ (List.mem_of_getElem? (i := 49) rfl))) Via.refl F4 X (Or.inr ⟨(hw _ (List.mem_of_getElem? (i := 50) rfl)), rfl, rfl⟩) (hw _ (List.mem_of_getElem? (i := 31) rfl)) (ty := (.object "com/example/resolve_place/resolveplace/parser/GeoRelation")) (by decide) rfl rfl hx0 (sfE X (by decide) (by decide)) (by decide +kernel) (fun hw4 Ww4 => ?_)
  replace F1 := F1.other Ww4 (Or.inr (slot_ne (Or.inr (hw _ (List.mem_of_getElem? (i := 43) rfl))) (Or.inr (hw _ (List.mem_of_getElem? (i := 50) rfl))) (by decide) (by decide : parseFieldDescriptor "Ljava/lang/String;" = some (.object "java/lang/String")) (by decide : parseFieldDescriptor "Lcom/example/resolve_place/resolveplace/parser/GeoRelation;" = some (.object "com/example/resolve_place/resolveplace/parser/GeoRelation"))))
  replace F2 := F2.other Ww4 (Or.inr (slot_ne (Or.inr (hw _ (List.mem_of_getElem? (i := 46) rfl))) (Or.inr (hw _ (List.mem_of_getElem? (i := 50) rfl))) (by decide) (by decide : parseFieldDescriptor "Ljava/lang/String;" = some (.object "java/lang/String")) (by decide : parseFieldDescriptor "Lcom/example/resolve_place/resolveplace/parser/GeoRelation;" = some (.object "com/example/resolve_place/resolveplace/parser/GeoRelation"))))
  replace F3 := F3.other Ww4 (Or.inr (slot_ne (Or.inr (hw _ (List.mem_of_getElem? (i := 48) rfl))) (Or.inr (hw _ (List.mem_of_getElem? (i := 50) rfl))) (by decide) (by decide : parseFieldDescriptor "Lcom/example/resolve_place/resolveplace/parser/WhatType;" = some (.object "com/example/resolve_place/resolveplace/parser/WhatType")) (by decide : parseFieldDescriptor "Lcom/example/resolve_place/resolveplace/parser/GeoRelation;" = some (.object "com/example/resolve_place/resolveplace/parser/GeoRelation"))))
  replace F4 := F4.same Ww4
  replace F5 := F5.other Ww4 (Or.inr (slot_ne (Or.inr (hw _ (List.mem_of_getElem? (i := 58) rfl))) (Or.inr (hw _ (List.mem_of_getElem? (i := 50) rfl))) (by decide) (by decide : parseFieldDescriptor "Ljava/util/List;" = some (.object "java/util/List")) (by decide : parseFieldDescriptor "Lcom/example/resolve_place/resolveplace/parser/GeoRelation;" = some (.object "com/example/resolve_place/resolveplace/parser/GeoRelation"))))
  replace X := X.wr Ww4
  replace Al := Al.wr Ww4 n1 n2
  replace XI1 := XI1.wr Ww4
  replace XS1 := XS1.wr Ww4
  replace XS2 := XS2.wr Ww4
  replace XS3 := XS3.wr Ww4
  replace XS4 := XS4.wr Ww4
  refine Run.pure hK (seg := [(77, .aload_n 0, 1), (78, .aload 5, 2)]) (by decide +kernel) (pc' := 80) (L' := #[.val (.ref x0), .val (.ref s1), .val (.ref s2), .val (.ref s3), .val (.ref s4), .val (.ref xl)]) (S' := [(.ref xl), (.ref x0)]) rfl ?_
  refine Run.static hK (index := 53) (y := (⟨"java/util/List", "copyOf", "(Ljava/util/Collection;)Ljava/util/List;"⟩ : MethodName)) (Wt := 1) (kc := 3) (ks := 6) (hw _ (List.mem_of_getElem? (i := 184) rfl)) (hw _ (List.mem_of_getElem? (i := 185) rfl)) (hw _ (List.mem_of_getElem? (i := 53) rfl)) (hw _ (List.mem_of_getElem? (i := 186) rfl)) (by decide) (W' := []) (fun _ q => nomatch q) (Ctr.cal (c_cp1 G xl ar e1 LX hw4 Al XI1) (hw _ (List.mem_of_getElem? (i := 186) rfl)) (hw _ (List.mem_of_getElem? (i := 53) rfl)) (by decide) (by decide)) rfl (argsL := [(.ref xl)]) (rest := [(.ref x0)]) (lenOf pd_lc rfl) rfl (Nat.le_of_ble_eq_true rfl) (by decide +kernel) (by decide) (by decide) (fun vc hc qc nc => ?_)
  obtain ⟨p1, rfl, P1, Ec⟩ := qc
  replace F1 := F1.ext Ec
  replace F2 := F2.ext Ec
  replace F3 := F3.ext Ec
  replace F4 := F4.ext Ec
  replace F5 := F5.ext Ec
  replace X := X.ext Ec
  have X' := X
  refine Run.putf hK (index := 57) (host := "") (Or.inl (hw _ (List.mem_of_getElem? (i := 57) rfl))) Via.refl F5 X (Or.inr ⟨(hw _ (List.mem_of_getElem? (i := 58) rfl)), rfl, rfl⟩) (hw _ (List.mem_of_getElem? (i := 31) rfl)) (ty := (.object "java/util/List")) (by decide) rfl rfl hx0 (sfE X (by decide) (by decide)) (by decide +kernel) (fun hz Wz => ?_)
  replace F1 := F1.other Wz (Or.inr (slot_ne (Or.inr (hw _ (List.mem_of_getElem? (i := 43) rfl))) (Or.inr (hw _ (List.mem_of_getElem? (i := 58) rfl))) (by decide) (by decide : parseFieldDescriptor "Ljava/lang/String;" = some (.object "java/lang/String")) (by decide : parseFieldDescriptor "Ljava/util/List;" = some (.object "java/util/List"))))
  replace F2 := F2.other Wz (Or.inr (slot_ne (Or.inr (hw _ (List.mem_of_getElem? (i := 46) rfl))) (Or.inr (hw _ (List.mem_of_getElem? (i := 58) rfl))) (by decide) (by decide : parseFieldDescriptor "Ljava/lang/String;" = some (.object "java/lang/String")) (by decide : parseFieldDescriptor "Ljava/util/List;" = some (.object "java/util/List"))))
  replace F3 := F3.other Wz (Or.inr (slot_ne (Or.inr (hw _ (List.mem_of_getElem? (i := 48) rfl))) (Or.inr (hw _ (List.mem_of_getElem? (i := 58) rfl))) (by decide) (by decide : parseFieldDescriptor "Lcom/example/resolve_place/resolveplace/parser/WhatType;" = some (.object "com/example/resolve_place/resolveplace/parser/WhatType")) (by decide : parseFieldDescriptor "Ljava/util/List;" = some (.object "java/util/List"))))
  replace F4 := F4.other Wz (Or.inr (slot_ne (Or.inr (hw _ (List.mem_of_getElem? (i := 50) rfl))) (Or.inr (hw _ (List.mem_of_getElem? (i := 58) rfl))) (by decide) (by decide : parseFieldDescriptor "Lcom/example/resolve_place/resolveplace/parser/GeoRelation;" = some (.object "com/example/resolve_place/resolveplace/parser/GeoRelation")) (by decide : parseFieldDescriptor "Ljava/util/List;" = some (.object "java/util/List"))))
  replace F5 := F5.same Wz
  replace X := X.wr Wz
  replace P1 := P1.wr Wz X' (hw _ (List.mem_of_getElem? (i := 31) rfl)) (by decide) (by decide)
  exact Run.retv hK (by decide +kernel) (by decide) (by decide) ⟨rfl, p1, ⟨X, F5⟩, P1⟩
set_option maxRecDepth 65536 in
set_option maxHeartbeats 40000000 in
theorem c_pq52 {l : Launch} {Z : State} {a0 : Array Value} {z0 : Int32} {fm : Value} (G : Env1 Z a0 z0 fm) (x0 s1 s2 s3 s4 xl ar : Addr) {k : ClassId} (e1 e2 : Addr) {N1 E0 e0 EM mr : Addr} {k1 k2 : ClassId} (LX : LF Z N1 E0 e0 EM mr k1 k2) (h : Heap) (hx0 : Z.heap.size ≤ x0) (X : Exa Z h x0 "com/example/resolve_place/resolveplace/parser/ParsedQuery") {u1 u2 u3 u4 u5 : Value} (F1 : Fld Z h x0 "com/example/resolve_place/resolveplace/parser/ParsedQuery" "query" "Ljava/lang/String;" u1) (F2 : Fld Z h x0 "com/example/resolve_place/resolveplace/parser/ParsedQuery" "what" "Ljava/lang/String;" u2) (F3 : Fld Z h x0 "com/example/resolve_place/resolveplace/parser/ParsedQuery" "whatType" "Lcom/example/resolve_place/resolveplace/parser/WhatType;" u3) (F4 : Fld Z h x0 "com/example/resolve_place/resolveplace/parser/ParsedQuery" "relation" "Lcom/example/resolve_place/resolveplace/parser/GeoRelation;" u4) (F5 : Fld Z h x0 "com/example/resolve_place/resolveplace/parser/ParsedQuery" "places" "Ljava/util/List;" u5) (Al : ALo Z h xl ar k [e1, e2]) (XI1 : Exa Z h e1 "java/lang/Integer") (XI2 : Exa Z h e2 "java/lang/Integer") (XS1 : Exa Z h s1 "java/lang/String") (XS2 : Exa Z h s2 "java/lang/String") (XS3 : Exa Z h s3 "com/example/resolve_place/resolveplace/parser/WhatType") (XS4 : Exa Z h s4 "com/example/resolve_place/resolveplace/parser/GeoRelation") : Ctr Z consts_1 false l [] (⟨"com/example/resolve_place/resolveplace/parser/ParsedQuery", "<init>", "(Ljava/lang/String;Ljava/lang/String;Lcom/example/resolve_place/resolveplace/parser/WhatType;Lcom/example/resolve_place/resolveplace/parser/GeoRelation;Ljava/util/List;)V"⟩ : MethodName) prog_30_method_1_code 6 none ({ frames := 9, cells := 11, slots := 123, locals := 140 } : Room) #[(.ref x0), (.ref s1), (.ref s2), (.ref s3), (.ref s4), (.ref xl)] h [] (fun v h' => v = none ∧ ∃ p, PQo Z h' x0 p ∧ Pl Z h' p EM (2 : Int32)) := by
  obtain ⟨hw, hEL, O2, P5, O4⟩ := id G
  refine Ctr.of_run (a0 := a0) (L0 := #[.val (.ref x0), .val (.ref s1), .val (.ref s2), .val (.ref s3), .val (.ref s4), .val (.ref xl)]) (plainFor_of_name pn_pq) hEL (by first | (simp [argsToLocals, Value.category, maxLocals]; done) | rfl) (fun K hK => ?_)
  have wS := g_wS hw
  have n1 : xl ≠ x0 := Al.1.ne X (by decide)
  have n2 : ar ≠ x0 := (X.neArv Al.2.2.2.2.1 (hw _ (List.mem_of_getElem? (i := 31) rfl))).symm
  refine Run.pure hK (seg := [(0, .aload_n 0, 1)]) (by decide +kernel) (pc' := 1) (L' := #[.val (.ref x0), .val (.ref s1), .val (.ref s2), .val (.ref s3), .val (.ref s4), .val (.ref xl)]) (S' := [(.ref x0)]) rfl ?_
  refine Run.initobj hK (index := 1) (hw _ (List.mem_of_getElem? (i := 35) rfl)) (hw _ (List.mem_of_getElem? (i := 16) rfl)) (hw _ (List.mem_of_getElem? (i := 17) rfl)) rfl (by decide +kernel) (by decide) (Wt := 0) (Nat.le_of_ble_eq_true rfl) (by decide) ?_
  refine Run.pure hK (seg := [(4, .aload 5, 2)]) (by decide +kernel) (pc' := 6) (L' := #[.val (.ref x0), .val (.ref s1), .val (.ref s2), .val (.ref s3), .val (.ref s4), .val (.ref xl)]) (S' := [(.ref xl)]) rfl ?_
  refine Run.iface hK (index := 7) (count := 1) (y := (⟨"java/util/List", "isEmpty", "()Z"⟩ : MethodName)) (z := (⟨"java/util/ArrayList", "isEmpty", "()Z"⟩ : MethodName)) (C := "java/util/ArrayList") (Wt := 0) (kc := 0) (ks := 0) (fun _ _ z => mv z (hw _ (List.mem_of_getElem? (i := 64) rfl))) (fun _ _ z => mv z (hw _ (List.mem_of_getElem? (i := 65) rfl))) (fun _ _ z => mv z (hw _ (List.mem_of_getElem? (i := 66) rfl))) (fun _ _ z => mv z (hw _ (List.mem_of_getElem? (i := 171) rfl))) (fun _ _ z => mv z (hw _ (List.mem_of_getElem? (i := 172) rfl))) (fun _ _ z => mv z (hw _ (List.mem_of_getElem? (i := 173) rfl))) (fun _ _ z => mv z (hw _ (List.mem_of_getElem? (i := 174) rfl))) (fun _ _ z => mv z (hw _ (List.mem_of_getElem? (i := 175) rfl))) (by decide) (a := xl) Al.1 (W' := []) (fun _ q => nomatch q) (Ctr.cal (len := 5) (c_ais G xl ar h Al (by simp) (by simp)) (hw _ (List.mem_of_getElem? (i := 176) rfl)) (hw _ (List.mem_of_getElem? (i := 93) rfl)) (by decide) (by decide)) rfl (argsL := []) (rest := []) (lenOf pd_z rfl) rfl (Nat.le_of_ble_eq_true rfl) (by decide +kernel) (by decide) (by decide) (fun v0 h0 q0 n0 => ?_)
  obtain ⟨rfl, rfl⟩ := q0
  refine Run.ifz hK (cd := .eq) (o := 13) (by decide +kernel) (by decide) (pc' := 24) rfl (fun _ => ?_) (fun q => by replace q := (h_eq _ _).2 q; exact absurd rfl q)
  refine Run.pure hK (seg := [(24, .aload_n 0, 1), (25, .aload_n 1, 1)]) (by decide +kernel) (pc' := 26) (L' := #[.val (.ref x0), .val (.ref s1), .val (.ref s2), .val (.ref s3), .val (.ref s4), .val (.ref xl)]) (S' := [(.ref s1), (.ref x0)]) rfl ?_
  refine Run.ldcs hK (index := 20) rfl (text := "query") (hw _ (List.mem_of_getElem? (i := 36) rfl)) wS (by decide) (vs := ((([113, 117, 101, 114, 121] : List Int32).map StrChars.lo8).map Value.int)) (z := (5 : Int32)) (by decide +kernel) (by decide) (by decide +kernel) (by decide +kernel) (n := 20) (by decide) (by decide) (by decide) (by decide) (fun hl1 xl1 bl1 kl1 El1 Xl1 Cl1 Vl1 Al1 => ?_)
  replace F1 := F1.ext El1
  replace F2 := F2.ext El1
  replace F3 := F3.ext El1
  replace F4 := F4.ext El1
  replace F5 := F5.ext El1
  replace X := X.ext El1
  replace Al := Al.ext El1
  replace XI1 := XI1.ext El1
  replace XI2 := XI2.ext El1
  replace XS1 := XS1.ext El1
  replace XS2 := XS2.ext El1
  replace XS3 := XS3.ext El1
  replace XS4 := XS4.ext El1
  refine Run.static hK (index := 22) (y := (⟨"java/util/Objects", "requireNonNull", "(Ljava/lang/Object;Ljava/lang/String;)Ljava/lang/Object;"⟩ : MethodName)) (Wt := 1) (kc := 0) (ks := 0) (hw _ (List.mem_of_getElem? (i := 37) rfl)) (hw _ (List.mem_of_getElem? (i := 38) rfl)) (hw _ (List.mem_of_getElem? (i := 39) rfl)) (hw _ (List.mem_of_getElem? (i := 40) rfl)) (by decide) (W' := []) (fun _ q => nomatch q) (Ctr.cal (c_rn2 G s1 xl1 hl1) (hw _ (List.mem_of_getElem? (i := 40) rfl)) (hw _ (List.mem_of_getElem? (i := 39) rfl)) (by decide) (by decide)) rfl (argsL := [(.ref s1), (.ref xl1)]) (rest := [(.ref x0)]) (lenOf pd_rn2 rfl) rfl (Nat.le_of_ble_eq_true rfl) (by decide +kernel) (by decide) (by decide) (fun vr1 hr1 qr1 nr1 => ?_)
  obtain ⟨rfl, rfl⟩ := qr1
  refine Run.cast hK (index := 28) (hw _ (List.mem_of_getElem? (i := 41) rfl)) (Ins.self XS1) (by decide +kernel) ?_
  refine Run.putf hK (index := 30) (host := "") (Or.inl (hw _ (List.mem_of_getElem? (i := 42) rfl))) Via.refl F1 X (Or.inr ⟨(hw _ (List.mem_of_getElem? (i := 43) rfl)), rfl, rfl⟩) (hw _ (List.mem_of_getElem? (i := 31) rfl)) (ty := (.object "java/lang/String")) (by decide) rfl rfl hx0 (sfE X (by decide) (by decide)) (by decide +kernel) (fun hw1 Ww1 => ?_)
  replace F1 := F1.same Ww1
  replace F2 := F2.other Ww1 (Or.inr (slot_ne (Or.inr (hw _ (List.mem_of_getElem? (i := 46) rfl))) (Or.inr (hw _ (List.mem_of_getElem? (i := 43) rfl))) (by decide) (by decide : parseFieldDescriptor "Ljava/lang/String;" = some (.object "java/lang/String")) (by decide : parseFieldDescriptor "Ljava/lang/String;" = some (.object "java/lang/String"))))
  replace F3 := F3.other Ww1 (Or.inr (slot_ne (Or.inr (hw _ (List.mem_of_getElem? (i := 48) rfl))) (Or.inr (hw _ (List.mem_of_getElem? (i := 43) rfl))) (by decide) (by decide : parseFieldDescriptor "Lcom/example/resolve_place/resolveplace/parser/WhatType;" = some (.object "com/example/resolve_place/resolveplace/parser/WhatType")) (by decide : parseFieldDescriptor "Ljava/lang/String;" = some (.object "java/lang/String"))))
  replace F4 := F4.other Ww1 (Or.inr (slot_ne (Or.inr (hw _ (List.mem_of_getElem? (i := 50) rfl))) (Or.inr (hw _ (List.mem_of_getElem? (i := 43) rfl))) (by decide) (by decide : parseFieldDescriptor "Lcom/example/resolve_place/resolveplace/parser/GeoRelation;" = some (.object "com/example/resolve_place/resolveplace/parser/GeoRelation")) (by decide : parseFieldDescriptor "Ljava/lang/String;" = some (.object "java/lang/String"))))
  replace F5 := F5.other Ww1 (Or.inr (slot_ne (Or.inr (hw _ (List.mem_of_getElem? (i := 58) rfl))) (Or.inr (hw _ (List.mem_of_getElem? (i := 43) rfl))) (by decide) (by decide : parseFieldDescriptor "Ljava/util/List;" = some (.object "java/util/List")) (by decide : parseFieldDescriptor "Ljava/lang/String;" = some (.object "java/lang/String"))))
  replace X := X.wr Ww1
  replace Al := Al.wr Ww1 n1 n2
  replace XI1 := XI1.wr Ww1
  replace XI2 := XI2.wr Ww1
  replace XS1 := XS1.wr Ww1
  replace XS2 := XS2.wr Ww1
  replace XS3 := XS3.wr Ww1
  replace XS4 := XS4.wr Ww1
  refine Run.pure hK (seg := [(37, .aload_n 0, 1), (38, .aload_n 2, 1)]) (by decide +kernel) (pc' := 39) (L' := #[.val (.ref x0), .val (.ref s1), .val (.ref s2), .val (.ref s3), .val (.ref s4), .val (.ref xl)]) (S' := [(.ref s2), (.ref x0)]) rfl ?_
  refine Run.ldcs hK (index := 35) rfl (text := "what") (hw _ (List.mem_of_getElem? (i := 177) rfl)) wS (by decide) (vs := ((([119, 104, 97, 116] : List Int32).map StrChars.lo8).map Value.int)) (z := (4 : Int32)) (by decide +kernel) (by decide) (by decide +kernel) (by decide +kernel) (n := 16) (by decide) (by decide) (by decide) (by decide) (fun hl2 xl2 bl2 kl2 El2 Xl2 Cl2 Vl2 Al2 => ?_)
  replace F1 := F1.ext El2
  replace F2 := F2.ext El2
  replace F3 := F3.ext El2
  replace F4 := F4.ext El2
  replace F5 := F5.ext El2
  replace X := X.ext El2
  replace Al := Al.ext El2
  replace XI1 := XI1.ext El2
  replace XI2 := XI2.ext El2
  replace XS1 := XS1.ext El2
  replace XS2 := XS2.ext El2
  replace XS3 := XS3.ext El2
  replace XS4 := XS4.ext El2
  refine Run.static hK (index := 22) (y := (⟨"java/util/Objects", "requireNonNull", "(Ljava/lang/Object;Ljava/lang/String;)Ljava/lang/Object;"⟩ : MethodName)) (Wt := 1) (kc := 0) (ks := 0) (hw _ (List.mem_of_getElem? (i := 37) rfl)) (hw _ (List.mem_of_getElem? (i := 38) rfl)) (hw _ (List.mem_of_getElem? (i := 39) rfl)) (hw _ (List.mem_of_getElem? (i := 40) rfl)) (by decide) (W' := []) (fun _ q => nomatch q) (Ctr.cal (c_rn2 G s2 xl2 hl2) (hw _ (List.mem_of_getElem? (i := 40) rfl)) (hw _ (List.mem_of_getElem? (i := 39) rfl)) (by decide) (by decide)) rfl (argsL := [(.ref s2), (.ref xl2)]) (rest := [(.ref x0)]) (lenOf pd_rn2 rfl) rfl (Nat.le_of_ble_eq_true rfl) (by decide +kernel) (by decide) (by decide) (fun vr2 hr2 qr2 nr2 => ?_)
  obtain ⟨rfl, rfl⟩ := qr2
  refine Run.cast hK (index := 28) (hw _ (List.mem_of_getElem? (i := 41) rfl)) (Ins.self XS2) (by decide +kernel) ?_
  refine Run.putf hK (index := 37) (host := "") (Or.inl (hw _ (List.mem_of_getElem? (i := 45) rfl))) Via.refl F2 X (Or.inr ⟨(hw _ (List.mem_of_getElem? (i := 46) rfl)), rfl, rfl⟩) (hw _ (List.mem_of_getElem? (i := 31) rfl)) (ty := (.object "java/lang/String")) (by decide) rfl rfl hx0 (sfE X (by decide) (by decide)) (by decide +kernel) (fun hw2 Ww2 => ?_)
  replace F1 := F1.other Ww2 (Or.inr (slot_ne (Or.inr (hw _ (List.mem_of_getElem? (i := 43) rfl))) (Or.inr (hw _ (List.mem_of_getElem? (i := 46) rfl))) (by decide) (by decide : parseFieldDescriptor "Ljava/lang/String;" = some (.object "java/lang/String")) (by decide : parseFieldDescriptor "Ljava/lang/String;" = some (.object "java/lang/String"))))
  replace F2 := F2.same Ww2
  replace F3 := F3.other Ww2 (Or.inr (slot_ne (Or.inr (hw _ (List.mem_of_getElem? (i := 48) rfl))) (Or.inr (hw _ (List.mem_of_getElem? (i := 46) rfl))) (by decide) (by decide : parseFieldDescriptor "Lcom/example/resolve_place/resolveplace/parser/WhatType;" = some (.object "com/example/resolve_place/resolveplace/parser/WhatType")) (by decide : parseFieldDescriptor "Ljava/lang/String;" = some (.object "java/lang/String"))))
  replace F4 := F4.other Ww2 (Or.inr (slot_ne (Or.inr (hw _ (List.mem_of_getElem? (i := 50) rfl))) (Or.inr (hw _ (List.mem_of_getElem? (i := 46) rfl))) (by decide) (by decide : parseFieldDescriptor "Lcom/example/resolve_place/resolveplace/parser/GeoRelation;" = some (.object "com/example/resolve_place/resolveplace/parser/GeoRelation")) (by decide : parseFieldDescriptor "Ljava/lang/String;" = some (.object "java/lang/String"))))
  replace F5 := F5.other Ww2 (Or.inr (slot_ne (Or.inr (hw _ (List.mem_of_getElem? (i := 58) rfl))) (Or.inr (hw _ (List.mem_of_getElem? (i := 46) rfl))) (by decide) (by decide : parseFieldDescriptor "Ljava/util/List;" = some (.object "java/util/List")) (by decide : parseFieldDescriptor "Ljava/lang/String;" = some (.object "java/lang/String"))))
  replace X := X.wr Ww2
  replace Al := Al.wr Ww2 n1 n2
  replace XI1 := XI1.wr Ww2
  replace XI2 := XI2.wr Ww2
  replace XS1 := XS1.wr Ww2
  replace XS2 := XS2.wr Ww2
  replace XS3 := XS3.wr Ww2
  replace XS4 := XS4.wr Ww2
  refine Run.pure hK (seg := [(50, .aload_n 0, 1), (51, .aload_n 3, 1)]) (by decide +kernel) (pc' := 52) (L' := #[.val (.ref x0), .val (.ref s1), .val (.ref s2), .val (.ref s3), .val (.ref s4), .val (.ref xl)]) (S' := [(.ref s3), (.ref x0)]) rfl ?_
  refine Run.ldcs hK (index := 39) rfl (text := "whatType") (hw _ (List.mem_of_getElem? (i := 178) rfl)) wS (by decide) (vs := ((([119, 104, 97, 116, 84, 121, 112, 101] : List Int32).map StrChars.lo8).map Value.int)) (z := (8 : Int32)) (by decide +kernel) (by decide) (by decide +kernel) (by decide +kernel) (n := 32) (by decide) (by decide) (by decide) (by decide) (fun hl3 xl3 bl3 kl3 El3 Xl3 Cl3 Vl3 Al3 => ?_)
  replace F1 := F1.ext El3
  replace F2 := F2.ext El3
  replace F3 := F3.ext El3
  replace F4 := F4.ext El3
  replace F5 := F5.ext El3
  replace X := X.ext El3
  replace Al := Al.ext El3
  replace XI1 := XI1.ext El3
  replace XI2 := XI2.ext El3
  replace XS1 := XS1.ext El3
  replace XS2 := XS2.ext El3
  replace XS3 := XS3.ext El3
  replace XS4 := XS4.ext El3
  refine Run.static hK (index := 22) (y := (⟨"java/util/Objects", "requireNonNull", "(Ljava/lang/Object;Ljava/lang/String;)Ljava/lang/Object;"⟩ : MethodName)) (Wt := 1) (kc := 0) (ks := 0) (hw _ (List.mem_of_getElem? (i := 37) rfl)) (hw _ (List.mem_of_getElem? (i := 38) rfl)) (hw _ (List.mem_of_getElem? (i := 39) rfl)) (hw _ (List.mem_of_getElem? (i := 40) rfl)) (by decide) (W' := []) (fun _ q => nomatch q) (Ctr.cal (c_rn2 G s3 xl3 hl3) (hw _ (List.mem_of_getElem? (i := 40) rfl)) (hw _ (List.mem_of_getElem? (i := 39) rfl)) (by decide) (by decide)) rfl (argsL := [(.ref s3), (.ref xl3)]) (rest := [(.ref x0)]) (lenOf pd_rn2 rfl) rfl (Nat.le_of_ble_eq_true rfl) (by decide +kernel) (by decide) (by decide) (fun vr3 hr3 qr3 nr3 => ?_)
  obtain ⟨rfl, rfl⟩ := qr3
  refine Run.cast hK (index := 41) (hw _ (List.mem_of_getElem? (i := 179) rfl)) (Ins.self XS3) (by decide +kernel) ?_
  refine Run.putf hK (index := 43) (host := "") (Or.inl (hw _ (List.mem_of_getElem? (i := 47) rfl))) Via.refl F3 X (Or.inr ⟨(hw _ (List.mem_of_getElem? (i := 48) rfl)), rfl, rfl⟩) (hw _ (List.mem_of_getElem? (i := 31) rfl)) (ty := (.object "com/example/resolve_place/resolveplace/parser/WhatType")) (by decide) rfl rfl hx0 (sfE X (by decide) (by decide)) (by decide +kernel) (fun hw3 Ww3 => ?_)
  replace F1 := F1.other Ww3 (Or.inr (slot_ne (Or.inr (hw _ (List.mem_of_getElem? (i := 43) rfl))) (Or.inr (hw _ (List.mem_of_getElem? (i := 48) rfl))) (by decide) (by decide : parseFieldDescriptor "Ljava/lang/String;" = some (.object "java/lang/String")) (by decide : parseFieldDescriptor "Lcom/example/resolve_place/resolveplace/parser/WhatType;" = some (.object "com/example/resolve_place/resolveplace/parser/WhatType"))))
  replace F2 := F2.other Ww3 (Or.inr (slot_ne (Or.inr (hw _ (List.mem_of_getElem? (i := 46) rfl))) (Or.inr (hw _ (List.mem_of_getElem? (i := 48) rfl))) (by decide) (by decide : parseFieldDescriptor "Ljava/lang/String;" = some (.object "java/lang/String")) (by decide : parseFieldDescriptor "Lcom/example/resolve_place/resolveplace/parser/WhatType;" = some (.object "com/example/resolve_place/resolveplace/parser/WhatType"))))
  replace F3 := F3.same Ww3
  replace F4 := F4.other Ww3 (Or.inr (slot_ne (Or.inr (hw _ (List.mem_of_getElem? (i := 50) rfl))) (Or.inr (hw _ (List.mem_of_getElem? (i := 48) rfl))) (by decide) (by decide : parseFieldDescriptor "Lcom/example/resolve_place/resolveplace/parser/GeoRelation;" = some (.object "com/example/resolve_place/resolveplace/parser/GeoRelation")) (by decide : parseFieldDescriptor "Lcom/example/resolve_place/resolveplace/parser/WhatType;" = some (.object "com/example/resolve_place/resolveplace/parser/WhatType"))))
  replace F5 := F5.other Ww3 (Or.inr (slot_ne (Or.inr (hw _ (List.mem_of_getElem? (i := 58) rfl))) (Or.inr (hw _ (List.mem_of_getElem? (i := 48) rfl))) (by decide) (by decide : parseFieldDescriptor "Ljava/util/List;" = some (.object "java/util/List")) (by decide : parseFieldDescriptor "Lcom/example/resolve_place/resolveplace/parser/WhatType;" = some (.object "com/example/resolve_place/resolveplace/parser/WhatType"))))
  replace X := X.wr Ww3
  replace Al := Al.wr Ww3 n1 n2
  replace XI1 := XI1.wr Ww3
  replace XI2 := XI2.wr Ww3
  replace XS1 := XS1.wr Ww3
  replace XS2 := XS2.wr Ww3
  replace XS3 := XS3.wr Ww3
  replace XS4 := XS4.wr Ww3
  refine Run.pure hK (seg := [(63, .aload_n 0, 1), (64, .aload 4, 2)]) (by decide +kernel) (pc' := 66) (L' := #[.val (.ref x0), .val (.ref s1), .val (.ref s2), .val (.ref s3), .val (.ref s4), .val (.ref xl)]) (S' := [(.ref s4), (.ref x0)]) rfl ?_
  refine Run.ldcs hK (index := 46) rfl (text := "relation") (hw _ (List.mem_of_getElem? (i := 181) rfl)) wS (by decide) (vs := ((([114, 101, 108, 97, 116, 105, 111, 110] : List Int32).map StrChars.lo8).map Value.int)) (z := (8 : Int32)) (by decide +kernel) (by decide) (by decide +kernel) (by decide +kernel) (n := 32) (by decide) (by decide) (by decide) (by decide) (fun hl4 xl4 bl4 kl4 El4 Xl4 Cl4 Vl4 Al4 => ?_)
  replace F1 := F1.ext El4
  replace F2 := F2.ext El4
  replace F3 := F3.ext El4
  replace F4 := F4.ext El4
  replace F5 := F5.ext El4
  replace X := X.ext El4
  replace Al := Al.ext El4
  replace XI1 := XI1.ext El4
  replace XI2 := XI2.ext El4
  replace XS1 := XS1.ext El4
  replace XS2 := XS2.ext El4
  replace XS3 := XS3.ext El4
  replace XS4 := XS4.ext El4
  refine Run.static hK (index := 22) (y := (⟨"java/util/Objects", "requireNonNull", "(Ljava/lang/Object;Ljava/lang/String;)Ljava/lang/Object;"⟩ : MethodName)) (Wt := 1) (kc := 0) (ks := 0) (hw _ (List.mem_of_getElem? (i := 37) rfl)) (hw _ (List.mem_of_getElem? (i := 38) rfl)) (hw _ (List.mem_of_getElem? (i := 39) rfl)) (hw _ (List.mem_of_getElem? (i := 40) rfl)) (by decide) (W' := []) (fun _ q => nomatch q) (Ctr.cal (c_rn2 G s4 xl4 hl4) (hw _ (List.mem_of_getElem? (i := 40) rfl)) (hw _ (List.mem_of_getElem? (i := 39) rfl)) (by decide) (by decide)) rfl (argsL := [(.ref s4), (.ref xl4)]) (rest := [(.ref x0)]) (lenOf pd_rn2 rfl) rfl (Nat.le_of_ble_eq_true rfl) (by decide +kernel) (by decide) (by decide) (fun vr4 hr4 qr4 nr4 => ?_)
  obtain ⟨rfl, rfl⟩ := qr4
  refine Run.cast hK (index := 48) (hw _ (List.mem_of_getElem? (i := 182) rfl)) (Ins.self XS4) (by decide +kernel) ?_
  refine Run.putf hK (index := 50) (host := "") (Or.inl (hw _ (List.mem_of_getElem? (i := 49) rfl))) Via.refl F4 X (Or.inr ⟨(hw _ (List.mem_of_getElem? (i := 50) rfl)), rfl, rfl⟩) (hw _ (List.mem_of_getElem? (i := 31) rfl)) (ty := (.object "com/example/resolve_place/resolveplace/parser/GeoRelation")) (by decide) rfl rfl hx0 (sfE X (by decide) (by decide)) (by decide +kernel) (fun hw4 Ww4 => ?_)
  replace F1 := F1.other Ww4 (Or.inr (slot_ne (Or.inr (hw _ (List.mem_of_getElem? (i := 43) rfl))) (Or.inr (hw _ (List.mem_of_getElem? (i := 50) rfl))) (by decide) (by decide : parseFieldDescriptor "Ljava/lang/String;" = some (.object "java/lang/String")) (by decide : parseFieldDescriptor "Lcom/example/resolve_place/resolveplace/parser/GeoRelation;" = some (.object "com/example/resolve_place/resolveplace/parser/GeoRelation"))))
  replace F2 := F2.other Ww4 (Or.inr (slot_ne (Or.inr (hw _ (List.mem_of_getElem? (i := 46) rfl))) (Or.inr (hw _ (List.mem_of_getElem? (i := 50) rfl))) (by decide) (by decide : parseFieldDescriptor "Ljava/lang/String;" = some (.object "java/lang/String")) (by decide : parseFieldDescriptor "Lcom/example/resolve_place/resolveplace/parser/GeoRelation;" = some (.object "com/example/resolve_place/resolveplace/parser/GeoRelation"))))
  replace F3 := F3.other Ww4 (Or.inr (slot_ne (Or.inr (hw _ (List.mem_of_getElem? (i := 48) rfl))) (Or.inr (hw _ (List.mem_of_getElem? (i := 50) rfl))) (by decide) (by decide : parseFieldDescriptor "Lcom/example/resolve_place/resolveplace/parser/WhatType;" = some (.object "com/example/resolve_place/resolveplace/parser/WhatType")) (by decide : parseFieldDescriptor "Lcom/example/resolve_place/resolveplace/parser/GeoRelation;" = some (.object "com/example/resolve_place/resolveplace/parser/GeoRelation"))))
  replace F4 := F4.same Ww4
  replace F5 := F5.other Ww4 (Or.inr (slot_ne (Or.inr (hw _ (List.mem_of_getElem? (i := 58) rfl))) (Or.inr (hw _ (List.mem_of_getElem? (i := 50) rfl))) (by decide) (by decide : parseFieldDescriptor "Ljava/util/List;" = some (.object "java/util/List")) (by decide : parseFieldDescriptor "Lcom/example/resolve_place/resolveplace/parser/GeoRelation;" = some (.object "com/example/resolve_place/resolveplace/parser/GeoRelation"))))
  replace X := X.wr Ww4
  replace Al := Al.wr Ww4 n1 n2
  replace XI1 := XI1.wr Ww4
  replace XI2 := XI2.wr Ww4
  replace XS1 := XS1.wr Ww4
  replace XS2 := XS2.wr Ww4
  replace XS3 := XS3.wr Ww4
  replace XS4 := XS4.wr Ww4
  refine Run.pure hK (seg := [(77, .aload_n 0, 1), (78, .aload 5, 2)]) (by decide +kernel) (pc' := 80) (L' := #[.val (.ref x0), .val (.ref s1), .val (.ref s2), .val (.ref s3), .val (.ref s4), .val (.ref xl)]) (S' := [(.ref xl), (.ref x0)]) rfl ?_
  refine Run.static hK (index := 53) (y := (⟨"java/util/List", "copyOf", "(Ljava/util/Collection;)Ljava/util/List;"⟩ : MethodName)) (Wt := 1) (kc := 3) (ks := 7) (hw _ (List.mem_of_getElem? (i := 184) rfl)) (hw _ (List.mem_of_getElem? (i := 185) rfl)) (hw _ (List.mem_of_getElem? (i := 53) rfl)) (hw _ (List.mem_of_getElem? (i := 186) rfl)) (by decide) (W' := []) (fun _ q => nomatch q) (Ctr.cal (c_cp2 G xl ar e1 e2 LX hw4 Al XI1 XI2) (hw _ (List.mem_of_getElem? (i := 186) rfl)) (hw _ (List.mem_of_getElem? (i := 53) rfl)) (by decide) (by decide)) rfl (argsL := [(.ref xl)]) (rest := [(.ref x0)]) (lenOf pd_lc rfl) rfl (Nat.le_of_ble_eq_true rfl) (by decide +kernel) (by decide) (by decide) (fun vc hc qc nc => ?_)
  obtain ⟨p1, rfl, P1, Ec⟩ := qc
  replace F1 := F1.ext Ec
  replace F2 := F2.ext Ec
  replace F3 := F3.ext Ec
  replace F4 := F4.ext Ec
  replace F5 := F5.ext Ec
  replace X := X.ext Ec
  have X' := X
  refine Run.putf hK (index := 57) (host := "") (Or.inl (hw _ (List.mem_of_getElem? (i := 57) rfl))) Via.refl F5 X (Or.inr ⟨(hw _ (List.mem_of_getElem? (i := 58) rfl)), rfl, rfl⟩) (hw _ (List.mem_of_getElem? (i := 31) rfl)) (ty := (.object "java/util/List")) (by decide) rfl rfl hx0 (sfE X (by decide) (by decide)) (by decide +kernel) (fun hz Wz => ?_)
  replace F1 := F1.other Wz (Or.inr (slot_ne (Or.inr (hw _ (List.mem_of_getElem? (i := 43) rfl))) (Or.inr (hw _ (List.mem_of_getElem? (i := 58) rfl))) (by decide) (by decide : parseFieldDescriptor "Ljava/lang/String;" = some (.object "java/lang/String")) (by decide : parseFieldDescriptor "Ljava/util/List;" = some (.object "java/util/List"))))
  replace F2 := F2.other Wz (Or.inr (slot_ne (Or.inr (hw _ (List.mem_of_getElem? (i := 46) rfl))) (Or.inr (hw _ (List.mem_of_getElem? (i := 58) rfl))) (by decide) (by decide : parseFieldDescriptor "Ljava/lang/String;" = some (.object "java/lang/String")) (by decide : parseFieldDescriptor "Ljava/util/List;" = some (.object "java/util/List"))))
  replace F3 := F3.other Wz (Or.inr (slot_ne (Or.inr (hw _ (List.mem_of_getElem? (i := 48) rfl))) (Or.inr (hw _ (List.mem_of_getElem? (i := 58) rfl))) (by decide) (by decide : parseFieldDescriptor "Lcom/example/resolve_place/resolveplace/parser/WhatType;" = some (.object "com/example/resolve_place/resolveplace/parser/WhatType")) (by decide : parseFieldDescriptor "Ljava/util/List;" = some (.object "java/util/List"))))
  replace F4 := F4.other Wz (Or.inr (slot_ne (Or.inr (hw _ (List.mem_of_getElem? (i := 50) rfl))) (Or.inr (hw _ (List.mem_of_getElem? (i := 58) rfl))) (by decide) (by decide : parseFieldDescriptor "Lcom/example/resolve_place/resolveplace/parser/GeoRelation;" = some (.object "com/example/resolve_place/resolveplace/parser/GeoRelation")) (by decide : parseFieldDescriptor "Ljava/util/List;" = some (.object "java/util/List"))))
  replace F5 := F5.same Wz
  replace X := X.wr Wz
  replace P1 := P1.wr Wz X' (hw _ (List.mem_of_getElem? (i := 31) rfl)) (by decide) (by decide)
  exact Run.retv hK (by decide +kernel) (by decide) (by decide) ⟨rfl, p1, ⟨X, F5⟩, P1⟩
set_option maxRecDepth 65536 in
set_option maxHeartbeats 40000000 in
theorem c_pq53 {l : Launch} {Z : State} {a0 : Array Value} {z0 : Int32} {fm : Value} (G : Env1 Z a0 z0 fm) (x0 s1 s2 s3 s4 xl ar : Addr) {k : ClassId} (e1 e2 e3 : Addr) {N1 E0 e0 EM mr : Addr} {k1 k2 : ClassId} (LX : LF Z N1 E0 e0 EM mr k1 k2) (h : Heap) (hx0 : Z.heap.size ≤ x0) (X : Exa Z h x0 "com/example/resolve_place/resolveplace/parser/ParsedQuery") {u1 u2 u3 u4 u5 : Value} (F1 : Fld Z h x0 "com/example/resolve_place/resolveplace/parser/ParsedQuery" "query" "Ljava/lang/String;" u1) (F2 : Fld Z h x0 "com/example/resolve_place/resolveplace/parser/ParsedQuery" "what" "Ljava/lang/String;" u2) (F3 : Fld Z h x0 "com/example/resolve_place/resolveplace/parser/ParsedQuery" "whatType" "Lcom/example/resolve_place/resolveplace/parser/WhatType;" u3) (F4 : Fld Z h x0 "com/example/resolve_place/resolveplace/parser/ParsedQuery" "relation" "Lcom/example/resolve_place/resolveplace/parser/GeoRelation;" u4) (F5 : Fld Z h x0 "com/example/resolve_place/resolveplace/parser/ParsedQuery" "places" "Ljava/util/List;" u5) (Al : ALo Z h xl ar k [e1, e2, e3]) (XI1 : Exa Z h e1 "java/lang/Integer") (XI2 : Exa Z h e2 "java/lang/Integer") (XI3 : Exa Z h e3 "java/lang/Integer") (XS1 : Exa Z h s1 "java/lang/String") (XS2 : Exa Z h s2 "java/lang/String") (XS3 : Exa Z h s3 "com/example/resolve_place/resolveplace/parser/WhatType") (XS4 : Exa Z h s4 "com/example/resolve_place/resolveplace/parser/GeoRelation") : Ctr Z consts_1 false l [] (⟨"com/example/resolve_place/resolveplace/parser/ParsedQuery", "<init>", "(Ljava/lang/String;Ljava/lang/String;Lcom/example/resolve_place/resolveplace/parser/WhatType;Lcom/example/resolve_place/resolveplace/parser/GeoRelation;Ljava/util/List;)V"⟩ : MethodName) prog_30_method_1_code 6 none ({ frames := 9, cells := 11, slots := 124, locals := 140 } : Room) #[(.ref x0), (.ref s1), (.ref s2), (.ref s3), (.ref s4), (.ref xl)] h [] (fun v h' => v = none ∧ ∃ p, PQo Z h' x0 p ∧ Pl Z h' p EM (3 : Int32)) := by
  obtain ⟨hw, hEL, O2, P5, O4⟩ := id G
  refine Ctr.of_run (a0 := a0) (L0 := #[.val (.ref x0), .val (.ref s1), .val (.ref s2), .val (.ref s3), .val (.ref s4), .val (.ref xl)]) (plainFor_of_name pn_pq) hEL (by first | (simp [argsToLocals, Value.category, maxLocals]; done) | rfl) (fun K hK => ?_)
  have wS := g_wS hw
  have n1 : xl ≠ x0 := Al.1.ne X (by decide)
  have n2 : ar ≠ x0 := (X.neArv Al.2.2.2.2.1 (hw _ (List.mem_of_getElem? (i := 31) rfl))).symm
  refine Run.pure hK (seg := [(0, .aload_n 0, 1)]) (by decide +kernel) (pc' := 1) (L' := #[.val (.ref x0), .val (.ref s1), .val (.ref s2), .val (.ref s3), .val (.ref s4), .val (.ref xl)]) (S' := [(.ref x0)]) rfl ?_
  refine Run.initobj hK (index := 1) (hw _ (List.mem_of_getElem? (i := 35) rfl)) (hw _ (List.mem_of_getElem? (i := 16) rfl)) (hw _ (List.mem_of_getElem? (i := 17) rfl)) rfl (by decide +kernel) (by decide) (Wt := 0) (Nat.le_of_ble_eq_true rfl) (by decide) ?_
  refine Run.pure hK (seg := [(4, .aload 5, 2)]) (by decide +kernel) (pc' := 6) (L' := #[.val (.ref x0), .val (.ref s1), .val (.ref s2), .val (.ref s3), .val (.ref s4), .val (.ref xl)]) (S' := [(.ref xl)]) rfl ?_
  refine Run.iface hK (index := 7) (count := 1) (y := (⟨"java/util/List", "isEmpty", "()Z"⟩ : MethodName)) (z := (⟨"java/util/ArrayList", "isEmpty", "()Z"⟩ : MethodName)) (C := "java/util/ArrayList") (Wt := 0) (kc := 0) (ks := 0) (fun _ _ z => mv z (hw _ (List.mem_of_getElem? (i := 64) rfl))) (fun _ _ z => mv z (hw _ (List.mem_of_getElem? (i := 65) rfl))) (fun _ _ z => mv z (hw _ (List.mem_of_getElem? (i := 66) rfl))) (fun _ _ z => mv z (hw _ (List.mem_of_getElem? (i := 171) rfl))) (fun _ _ z => mv z (hw _ (List.mem_of_getElem? (i := 172) rfl))) (fun _ _ z => mv z (hw _ (List.mem_of_getElem? (i := 173) rfl))) (fun _ _ z => mv z (hw _ (List.mem_of_getElem? (i := 174) rfl))) (fun _ _ z => mv z (hw _ (List.mem_of_getElem? (i := 175) rfl))) (by decide) (a := xl) Al.1 (W' := []) (fun _ q => nomatch q) (Ctr.cal (len := 5) (c_ais G xl ar h Al (by simp) (by simp)) (hw _ (List.mem_of_getElem? (i := 176) rfl)) (hw _ (List.mem_of_getElem? (i := 93) rfl)) (by decide) (by decide)) rfl (argsL := []) (rest := []) (lenOf pd_z rfl) rfl (Nat.le_of_ble_eq_true rfl) (by decide +kernel) (by decide) (by decide) (fun v0 h0 q0 n0 => ?_)
  obtain ⟨rfl, rfl⟩ := q0
  refine Run.ifz hK (cd := .eq) (o := 13) (by decide +kernel) (by decide) (pc' := 24) rfl (fun _ => ?_) (fun q => by replace q := (h_eq _ _).2 q; exact absurd rfl q)
  refine Run.pure hK (seg := [(24, .aload_n 0, 1), (25, .aload_n 1, 1)]) (by decide +kernel) (pc' := 26) (L' := #[.val (.ref x0), .val (.ref s1), .val (.ref s2), .val (.ref s3), .val (.ref s4), .val (.ref xl)]) (S' := [(.ref s1), (.ref x0)]) rfl ?_
  refine Run.ldcs hK (index := 20) rfl (text := "query") (hw _ (List.mem_of_getElem? (i := 36) rfl)) wS (by decide) (vs := ((([113, 117, 101, 114, 121] : List Int32).map StrChars.lo8).map Value.int)) (z := (5 : Int32)) (by decide +kernel) (by decide) (by decide +kernel) (by decide +kernel) (n := 20) (by decide) (by decide) (by decide) (by decide) (fun hl1 xl1 bl1 kl1 El1 Xl1 Cl1 Vl1 Al1 => ?_)
  replace F1 := F1.ext El1
  replace F2 := F2.ext El1
  replace F3 := F3.ext El1
  replace F4 := F4.ext El1
  replace F5 := F5.ext El1
  replace X := X.ext El1
  replace Al := Al.ext El1
  replace XI1 := XI1.ext El1
  replace XI2 := XI2.ext El1
  replace XI3 := XI3.ext El1
  replace XS1 := XS1.ext El1
  replace XS2 := XS2.ext El1
  replace XS3 := XS3.ext El1
  replace XS4 := XS4.ext El1
  refine Run.static hK (index := 22) (y := (⟨"java/util/Objects", "requireNonNull", "(Ljava/lang/Object;Ljava/lang/String;)Ljava/lang/Object;"⟩ : MethodName)) (Wt := 1) (kc := 0) (ks := 0) (hw _ (List.mem_of_getElem? (i := 37) rfl)) (hw _ (List.mem_of_getElem? (i := 38) rfl)) (hw _ (List.mem_of_getElem? (i := 39) rfl)) (hw _ (List.mem_of_getElem? (i := 40) rfl)) (by decide) (W' := []) (fun _ q => nomatch q) (Ctr.cal (c_rn2 G s1 xl1 hl1) (hw _ (List.mem_of_getElem? (i := 40) rfl)) (hw _ (List.mem_of_getElem? (i := 39) rfl)) (by decide) (by decide)) rfl (argsL := [(.ref s1), (.ref xl1)]) (rest := [(.ref x0)]) (lenOf pd_rn2 rfl) rfl (Nat.le_of_ble_eq_true rfl) (by decide +kernel) (by decide) (by decide) (fun vr1 hr1 qr1 nr1 => ?_)
  obtain ⟨rfl, rfl⟩ := qr1
  refine Run.cast hK (index := 28) (hw _ (List.mem_of_getElem? (i := 41) rfl)) (Ins.self XS1) (by decide +kernel) ?_
  refine Run.putf hK (index := 30) (host := "") (Or.inl (hw _ (List.mem_of_getElem? (i := 42) rfl))) Via.refl F1 X (Or.inr ⟨(hw _ (List.mem_of_getElem? (i := 43) rfl)), rfl, rfl⟩) (hw _ (List.mem_of_getElem? (i := 31) rfl)) (ty := (.object "java/lang/String")) (by decide) rfl rfl hx0 (sfE X (by decide) (by decide)) (by decide +kernel) (fun hw1 Ww1 => ?_)
  replace F1 := F1.same Ww1
  replace F2 := F2.other Ww1 (Or.inr (slot_ne (Or.inr (hw _ (List.mem_of_getElem? (i := 46) rfl))) (Or.inr (hw _ (List.mem_of_getElem? (i := 43) rfl))) (by decide) (by decide : parseFieldDescriptor "Ljava/lang/String;" = some (.object "java/lang/String")) (by decide : parseFieldDescriptor "Ljava/lang/String;" = some (.object "java/lang/String"))))
  replace F3 := F3.other Ww1 (Or.inr (slot_ne (Or.inr (hw _ (List.mem_of_getElem? (i := 48) rfl))) (Or.inr (hw _ (List.mem_of_getElem? (i := 43) rfl))) (by decide) (by decide : parseFieldDescriptor "Lcom/example/resolve_place/resolveplace/parser/WhatType;" = some (.object "com/example/resolve_place/resolveplace/parser/WhatType")) (by decide : parseFieldDescriptor "Ljava/lang/String;" = some (.object "java/lang/String"))))
  replace F4 := F4.other Ww1 (Or.inr (slot_ne (Or.inr (hw _ (List.mem_of_getElem? (i := 50) rfl))) (Or.inr (hw _ (List.mem_of_getElem? (i := 43) rfl))) (by decide) (by decide : parseFieldDescriptor "Lcom/example/resolve_place/resolveplace/parser/GeoRelation;" = some (.object "com/example/resolve_place/resolveplace/parser/GeoRelation")) (by decide : parseFieldDescriptor "Ljava/lang/String;" = some (.object "java/lang/String"))))
  replace F5 := F5.other Ww1 (Or.inr (slot_ne (Or.inr (hw _ (List.mem_of_getElem? (i := 58) rfl))) (Or.inr (hw _ (List.mem_of_getElem? (i := 43) rfl))) (by decide) (by decide : parseFieldDescriptor "Ljava/util/List;" = some (.object "java/util/List")) (by decide : parseFieldDescriptor "Ljava/lang/String;" = some (.object "java/lang/String"))))
  replace X := X.wr Ww1
  replace Al := Al.wr Ww1 n1 n2
  replace XI1 := XI1.wr Ww1
  replace XI2 := XI2.wr Ww1
  replace XI3 := XI3.wr Ww1
  replace XS1 := XS1.wr Ww1
  replace XS2 := XS2.wr Ww1
  replace XS3 := XS3.wr Ww1
  replace XS4 := XS4.wr Ww1
  refine Run.pure hK (seg := [(37, .aload_n 0, 1), (38, .aload_n 2, 1)]) (by decide +kernel) (pc' := 39) (L' := #[.val (.ref x0), .val (.ref s1), .val (.ref s2), .val (.ref s3), .val (.ref s4), .val (.ref xl)]) (S' := [(.ref s2), (.ref x0)]) rfl ?_
  refine Run.ldcs hK (index := 35) rfl (text := "what") (hw _ (List.mem_of_getElem? (i := 177) rfl)) wS (by decide) (vs := ((([119, 104, 97, 116] : List Int32).map StrChars.lo8).map Value.int)) (z := (4 : Int32)) (by decide +kernel) (by decide) (by decide +kernel) (by decide +kernel) (n := 16) (by decide) (by decide) (by decide) (by decide) (fun hl2 xl2 bl2 kl2 El2 Xl2 Cl2 Vl2 Al2 => ?_)
  replace F1 := F1.ext El2
  replace F2 := F2.ext El2
  replace F3 := F3.ext El2
  replace F4 := F4.ext El2
  replace F5 := F5.ext El2
  replace X := X.ext El2
  replace Al := Al.ext El2
  replace XI1 := XI1.ext El2
  replace XI2 := XI2.ext El2
  replace XI3 := XI3.ext El2
  replace XS1 := XS1.ext El2
  replace XS2 := XS2.ext El2
  replace XS3 := XS3.ext El2
  replace XS4 := XS4.ext El2
  refine Run.static hK (index := 22) (y := (⟨"java/util/Objects", "requireNonNull", "(Ljava/lang/Object;Ljava/lang/String;)Ljava/lang/Object;"⟩ : MethodName)) (Wt := 1) (kc := 0) (ks := 0) (hw _ (List.mem_of_getElem? (i := 37) rfl)) (hw _ (List.mem_of_getElem? (i := 38) rfl)) (hw _ (List.mem_of_getElem? (i := 39) rfl)) (hw _ (List.mem_of_getElem? (i := 40) rfl)) (by decide) (W' := []) (fun _ q => nomatch q) (Ctr.cal (c_rn2 G s2 xl2 hl2) (hw _ (List.mem_of_getElem? (i := 40) rfl)) (hw _ (List.mem_of_getElem? (i := 39) rfl)) (by decide) (by decide)) rfl (argsL := [(.ref s2), (.ref xl2)]) (rest := [(.ref x0)]) (lenOf pd_rn2 rfl) rfl (Nat.le_of_ble_eq_true rfl) (by decide +kernel) (by decide) (by decide) (fun vr2 hr2 qr2 nr2 => ?_)
  obtain ⟨rfl, rfl⟩ := qr2
  refine Run.cast hK (index := 28) (hw _ (List.mem_of_getElem? (i := 41) rfl)) (Ins.self XS2) (by decide +kernel) ?_
  refine Run.putf hK (index := 37) (host := "") (Or.inl (hw _ (List.mem_of_getElem? (i := 45) rfl))) Via.refl F2 X (Or.inr ⟨(hw _ (List.mem_of_getElem? (i := 46) rfl)), rfl, rfl⟩) (hw _ (List.mem_of_getElem? (i := 31) rfl)) (ty := (.object "java/lang/String")) (by decide) rfl rfl hx0 (sfE X (by decide) (by decide)) (by decide +kernel) (fun hw2 Ww2 => ?_)
  replace F1 := F1.other Ww2 (Or.inr (slot_ne (Or.inr (hw _ (List.mem_of_getElem? (i := 43) rfl))) (Or.inr (hw _ (List.mem_of_getElem? (i := 46) rfl))) (by decide) (by decide : parseFieldDescriptor "Ljava/lang/String;" = some (.object "java/lang/String")) (by decide : parseFieldDescriptor "Ljava/lang/String;" = some (.object "java/lang/String"))))
  replace F2 := F2.same Ww2
  replace F3 := F3.other Ww2 (Or.inr (slot_ne (Or.inr (hw _ (List.mem_of_getElem? (i := 48) rfl))) (Or.inr (hw _ (List.mem_of_getElem? (i := 46) rfl))) (by decide) (by decide : parseFieldDescriptor "Lcom/example/resolve_place/resolveplace/parser/WhatType;" = some (.object "com/example/resolve_place/resolveplace/parser/WhatType")) (by decide : parseFieldDescriptor "Ljava/lang/String;" = some (.object "java/lang/String"))))
  replace F4 := F4.other Ww2 (Or.inr (slot_ne (Or.inr (hw _ (List.mem_of_getElem? (i := 50) rfl))) (Or.inr (hw _ (List.mem_of_getElem? (i := 46) rfl))) (by decide) (by decide : parseFieldDescriptor "Lcom/example/resolve_place/resolveplace/parser/GeoRelation;" = some (.object "com/example/resolve_place/resolveplace/parser/GeoRelation")) (by decide : parseFieldDescriptor "Ljava/lang/String;" = some (.object "java/lang/String"))))
  replace F5 := F5.other Ww2 (Or.inr (slot_ne (Or.inr (hw _ (List.mem_of_getElem? (i := 58) rfl))) (Or.inr (hw _ (List.mem_of_getElem? (i := 46) rfl))) (by decide) (by decide : parseFieldDescriptor "Ljava/util/List;" = some (.object "java/util/List")) (by decide : parseFieldDescriptor "Ljava/lang/String;" = some (.object "java/lang/String"))))
  replace X := X.wr Ww2
  replace Al := Al.wr Ww2 n1 n2
  replace XI1 := XI1.wr Ww2
  replace XI2 := XI2.wr Ww2
  replace XI3 := XI3.wr Ww2
  replace XS1 := XS1.wr Ww2
  replace XS2 := XS2.wr Ww2
  replace XS3 := XS3.wr Ww2
  replace XS4 := XS4.wr Ww2
  refine Run.pure hK (seg := [(50, .aload_n 0, 1), (51, .aload_n 3, 1)]) (by decide +kernel) (pc' := 52) (L' := #[.val (.ref x0), .val (.ref s1), .val (.ref s2), .val (.ref s3), .val (.ref s4), .val (.ref xl)]) (S' := [(.ref s3), (.ref x0)]) rfl ?_
  refine Run.ldcs hK (index := 39) rfl (text := "whatType") (hw _ (List.mem_of_getElem? (i := 178) rfl)) wS (by decide) (vs := ((([119, 104, 97, 116, 84, 121, 112, 101] : List Int32).map StrChars.lo8).map Value.int)) (z := (8 : Int32)) (by decide +kernel) (by decide) (by decide +kernel) (by decide +kernel) (n := 32) (by decide) (by decide) (by decide) (by decide) (fun hl3 xl3 bl3 kl3 El3 Xl3 Cl3 Vl3 Al3 => ?_)
  replace F1 := F1.ext El3
  replace F2 := F2.ext El3
  replace F3 := F3.ext El3
  replace F4 := F4.ext El3
  replace F5 := F5.ext El3
  replace X := X.ext El3
  replace Al := Al.ext El3
  replace XI1 := XI1.ext El3
  replace XI2 := XI2.ext El3
  replace XI3 := XI3.ext El3
  replace XS1 := XS1.ext El3
  replace XS2 := XS2.ext El3
  replace XS3 := XS3.ext El3
  replace XS4 := XS4.ext El3
  refine Run.static hK (index := 22) (y := (⟨"java/util/Objects", "requireNonNull", "(Ljava/lang/Object;Ljava/lang/String;)Ljava/lang/Object;"⟩ : MethodName)) (Wt := 1) (kc := 0) (ks := 0) (hw _ (List.mem_of_getElem? (i := 37) rfl)) (hw _ (List.mem_of_getElem? (i := 38) rfl)) (hw _ (List.mem_of_getElem? (i := 39) rfl)) (hw _ (List.mem_of_getElem? (i := 40) rfl)) (by decide) (W' := []) (fun _ q => nomatch q) (Ctr.cal (c_rn2 G s3 xl3 hl3) (hw _ (List.mem_of_getElem? (i := 40) rfl)) (hw _ (List.mem_of_getElem? (i := 39) rfl)) (by decide) (by decide)) rfl (argsL := [(.ref s3), (.ref xl3)]) (rest := [(.ref x0)]) (lenOf pd_rn2 rfl) rfl (Nat.le_of_ble_eq_true rfl) (by decide +kernel) (by decide) (by decide) (fun vr3 hr3 qr3 nr3 => ?_)
  obtain ⟨rfl, rfl⟩ := qr3
  refine Run.cast hK (index := 41) (hw _ (List.mem_of_getElem? (i := 179) rfl)) (Ins.self XS3) (by decide +kernel) ?_
  refine Run.putf hK (index := 43) (host := "") (Or.inl (hw _ (List.mem_of_getElem? (i := 47) rfl))) Via.refl F3 X (Or.inr ⟨(hw _ (List.mem_of_getElem? (i := 48) rfl)), rfl, rfl⟩) (hw _ (List.mem_of_getElem? (i := 31) rfl)) (ty := (.object "com/example/resolve_place/resolveplace/parser/WhatType")) (by decide) rfl rfl hx0 (sfE X (by decide) (by decide)) (by decide +kernel) (fun hw3 Ww3 => ?_)
  replace F1 := F1.other Ww3 (Or.inr (slot_ne (Or.inr (hw _ (List.mem_of_getElem? (i := 43) rfl))) (Or.inr (hw _ (List.mem_of_getElem? (i := 48) rfl))) (by decide) (by decide : parseFieldDescriptor "Ljava/lang/String;" = some (.object "java/lang/String")) (by decide : parseFieldDescriptor "Lcom/example/resolve_place/resolveplace/parser/WhatType;" = some (.object "com/example/resolve_place/resolveplace/parser/WhatType"))))
  replace F2 := F2.other Ww3 (Or.inr (slot_ne (Or.inr (hw _ (List.mem_of_getElem? (i := 46) rfl))) (Or.inr (hw _ (List.mem_of_getElem? (i := 48) rfl))) (by decide) (by decide : parseFieldDescriptor "Ljava/lang/String;" = some (.object "java/lang/String")) (by decide : parseFieldDescriptor "Lcom/example/resolve_place/resolveplace/parser/WhatType;" = some (.object "com/example/resolve_place/resolveplace/parser/WhatType"))))
  replace F3 := F3.same Ww3
  replace F4 := F4.other Ww3 (Or.inr (slot_ne (Or.inr (hw _ (List.mem_of_getElem? (i := 50) rfl))) (Or.inr (hw _ (List.mem_of_getElem? (i := 48) rfl))) (by decide) (by decide : parseFieldDescriptor "Lcom/example/resolve_place/resolveplace/parser/GeoRelation;" = some (.object "com/example/resolve_place/resolveplace/parser/GeoRelation")) (by decide : parseFieldDescriptor "Lcom/example/resolve_place/resolveplace/parser/WhatType;" = some (.object "com/example/resolve_place/resolveplace/parser/WhatType"))))
  replace F5 := F5.other Ww3 (Or.inr (slot_ne (Or.inr (hw _ (List.mem_of_getElem? (i := 58) rfl))) (Or.inr (hw _ (List.mem_of_getElem? (i := 48) rfl))) (by decide) (by decide : parseFieldDescriptor "Ljava/util/List;" = some (.object "java/util/List")) (by decide : parseFieldDescriptor "Lcom/example/resolve_place/resolveplace/parser/WhatType;" = some (.object "com/example/resolve_place/resolveplace/parser/WhatType"))))
  replace X := X.wr Ww3
  replace Al := Al.wr Ww3 n1 n2
  replace XI1 := XI1.wr Ww3
  replace XI2 := XI2.wr Ww3
  replace XI3 := XI3.wr Ww3
  replace XS1 := XS1.wr Ww3
  replace XS2 := XS2.wr Ww3
  replace XS3 := XS3.wr Ww3
  replace XS4 := XS4.wr Ww3
  refine Run.pure hK (seg := [(63, .aload_n 0, 1), (64, .aload 4, 2)]) (by decide +kernel) (pc' := 66) (L' := #[.val (.ref x0), .val (.ref s1), .val (.ref s2), .val (.ref s3), .val (.ref s4), .val (.ref xl)]) (S' := [(.ref s4), (.ref x0)]) rfl ?_
  refine Run.ldcs hK (index := 46) rfl (text := "relation") (hw _ (List.mem_of_getElem? (i := 181) rfl)) wS (by decide) (vs := ((([114, 101, 108, 97, 116, 105, 111, 110] : List Int32).map StrChars.lo8).map Value.int)) (z := (8 : Int32)) (by decide +kernel) (by decide) (by decide +kernel) (by decide +kernel) (n := 32) (by decide) (by decide) (by decide) (by decide) (fun hl4 xl4 bl4 kl4 El4 Xl4 Cl4 Vl4 Al4 => ?_)
  replace F1 := F1.ext El4
  replace F2 := F2.ext El4
  replace F3 := F3.ext El4
  replace F4 := F4.ext El4
  replace F5 := F5.ext El4
  replace X := X.ext El4
  replace Al := Al.ext El4
  replace XI1 := XI1.ext El4
  replace XI2 := XI2.ext El4
  replace XI3 := XI3.ext El4
  replace XS1 := XS1.ext El4
  replace XS2 := XS2.ext El4
  replace XS3 := XS3.ext El4
  replace XS4 := XS4.ext El4
  refine Run.static hK (index := 22) (y := (⟨"java/util/Objects", "requireNonNull", "(Ljava/lang/Object;Ljava/lang/String;)Ljava/lang/Object;"⟩ : MethodName)) (Wt := 1) (kc := 0) (ks := 0) (hw _ (List.mem_of_getElem? (i := 37) rfl)) (hw _ (List.mem_of_getElem? (i := 38) rfl)) (hw _ (List.mem_of_getElem? (i := 39) rfl)) (hw _ (List.mem_of_getElem? (i := 40) rfl)) (by decide) (W' := []) (fun _ q => nomatch q) (Ctr.cal (c_rn2 G s4 xl4 hl4) (hw _ (List.mem_of_getElem? (i := 40) rfl)) (hw _ (List.mem_of_getElem? (i := 39) rfl)) (by decide) (by decide)) rfl (argsL := [(.ref s4), (.ref xl4)]) (rest := [(.ref x0)]) (lenOf pd_rn2 rfl) rfl (Nat.le_of_ble_eq_true rfl) (by decide +kernel) (by decide) (by decide) (fun vr4 hr4 qr4 nr4 => ?_)
  obtain ⟨rfl, rfl⟩ := qr4
  refine Run.cast hK (index := 48) (hw _ (List.mem_of_getElem? (i := 182) rfl)) (Ins.self XS4) (by decide +kernel) ?_
  refine Run.putf hK (index := 50) (host := "") (Or.inl (hw _ (List.mem_of_getElem? (i := 49) rfl))) Via.refl F4 X (Or.inr ⟨(hw _ (List.mem_of_getElem? (i := 50) rfl)), rfl, rfl⟩) (hw _ (List.mem_of_getElem? (i := 31) rfl)) (ty := (.object "com/example/resolve_place/resolveplace/parser/GeoRelation")) (by decide) rfl rfl hx0 (sfE X (by decide) (by decide)) (by decide +kernel) (fun hw4 Ww4 => ?_)
  replace F1 := F1.other Ww4 (Or.inr (slot_ne (Or.inr (hw _ (List.mem_of_getElem? (i := 43) rfl))) (Or.inr (hw _ (List.mem_of_getElem? (i := 50) rfl))) (by decide) (by decide : parseFieldDescriptor "Ljava/lang/String;" = some (.object "java/lang/String")) (by decide : parseFieldDescriptor "Lcom/example/resolve_place/resolveplace/parser/GeoRelation;" = some (.object "com/example/resolve_place/resolveplace/parser/GeoRelation"))))
  replace F2 := F2.other Ww4 (Or.inr (slot_ne (Or.inr (hw _ (List.mem_of_getElem? (i := 46) rfl))) (Or.inr (hw _ (List.mem_of_getElem? (i := 50) rfl))) (by decide) (by decide : parseFieldDescriptor "Ljava/lang/String;" = some (.object "java/lang/String")) (by decide : parseFieldDescriptor "Lcom/example/resolve_place/resolveplace/parser/GeoRelation;" = some (.object "com/example/resolve_place/resolveplace/parser/GeoRelation"))))
  replace F3 := F3.other Ww4 (Or.inr (slot_ne (Or.inr (hw _ (List.mem_of_getElem? (i := 48) rfl))) (Or.inr (hw _ (List.mem_of_getElem? (i := 50) rfl))) (by decide) (by decide : parseFieldDescriptor "Lcom/example/resolve_place/resolveplace/parser/WhatType;" = some (.object "com/example/resolve_place/resolveplace/parser/WhatType")) (by decide : parseFieldDescriptor "Lcom/example/resolve_place/resolveplace/parser/GeoRelation;" = some (.object "com/example/resolve_place/resolveplace/parser/GeoRelation"))))
  replace F4 := F4.same Ww4
  replace F5 := F5.other Ww4 (Or.inr (slot_ne (Or.inr (hw _ (List.mem_of_getElem? (i := 58) rfl))) (Or.inr (hw _ (List.mem_of_getElem? (i := 50) rfl))) (by decide) (by decide : parseFieldDescriptor "Ljava/util/List;" = some (.object "java/util/List")) (by decide : parseFieldDescriptor "Lcom/example/resolve_place/resolveplace/parser/GeoRelation;" = some (.object "com/example/resolve_place/resolveplace/parser/GeoRelation"))))
  replace X := X.wr Ww4
  replace Al := Al.wr Ww4 n1 n2
  replace XI1 := XI1.wr Ww4
  replace XI2 := XI2.wr Ww4
  replace XI3 := XI3.wr Ww4
  replace XS1 := XS1.wr Ww4
  replace XS2 := XS2.wr Ww4
  replace XS3 := XS3.wr Ww4
  replace XS4 := XS4.wr Ww4
  refine Run.pure hK (seg := [(77, .aload_n 0, 1), (78, .aload 5, 2)]) (by decide +kernel) (pc' := 80) (L' := #[.val (.ref x0), .val (.ref s1), .val (.ref s2), .val (.ref s3), .val (.ref s4), .val (.ref xl)]) (S' := [(.ref xl), (.ref x0)]) rfl ?_
  refine Run.static hK (index := 53) (y := (⟨"java/util/List", "copyOf", "(Ljava/util/Collection;)Ljava/util/List;"⟩ : MethodName)) (Wt := 1) (kc := 3) (ks := 8) (hw _ (List.mem_of_getElem? (i := 184) rfl)) (hw _ (List.mem_of_getElem? (i := 185) rfl)) (hw _ (List.mem_of_getElem? (i := 53) rfl)) (hw _ (List.mem_of_getElem? (i := 186) rfl)) (by decide) (W' := []) (fun _ q => nomatch q) (Ctr.cal (c_cp3 G xl ar e1 e2 e3 LX hw4 Al XI1 XI2 XI3) (hw _ (List.mem_of_getElem? (i := 186) rfl)) (hw _ (List.mem_of_getElem? (i := 53) rfl)) (by decide) (by decide)) rfl (argsL := [(.ref xl)]) (rest := [(.ref x0)]) (lenOf pd_lc rfl) rfl (Nat.le_of_ble_eq_true rfl) (by decide +kernel) (by decide) (by decide) (fun vc hc qc nc => ?_)
  obtain ⟨p1, rfl, P1, Ec⟩ := qc
  replace F1 := F1.ext Ec
  replace F2 := F2.ext Ec
  replace F3 := F3.ext Ec
  replace F4 := F4.ext Ec
  replace F5 := F5.ext Ec
  replace X := X.ext Ec
  have X' := X
  refine Run.putf hK (index := 57) (host := "") (Or.inl (hw _ (List.mem_of_getElem? (i := 57) rfl))) Via.refl F5 X (Or.inr ⟨(hw _ (List.mem_of_getElem? (i := 58) rfl)), rfl, rfl⟩) (hw _ (List.mem_of_getElem? (i := 31) rfl)) (ty := (.object "java/util/List")) (by decide) rfl rfl hx0 (sfE X (by decide) (by decide)) (by decide +kernel) (fun hz Wz => ?_)
  replace F1 := F1.other Wz (Or.inr (slot_ne (Or.inr (hw _ (List.mem_of_getElem? (i := 43) rfl))) (Or.inr (hw _ (List.mem_of_getElem? (i := 58) rfl))) (by decide) (by decide : parseFieldDescriptor "Ljava/lang/String;" = some (.object "java/lang/String")) (by decide : parseFieldDescriptor "Ljava/util/List;" = some (.object "java/util/List"))))
  replace F2 := F2.other Wz (Or.inr (slot_ne (Or.inr (hw _ (List.mem_of_getElem? (i := 46) rfl))) (Or.inr (hw _ (List.mem_of_getElem? (i := 58) rfl))) (by decide) (by decide : parseFieldDescriptor "Ljava/lang/String;" = some (.object "java/lang/String")) (by decide : parseFieldDescriptor "Ljava/util/List;" = some (.object "java/util/List"))))
  replace F3 := F3.other Wz (Or.inr (slot_ne (Or.inr (hw _ (List.mem_of_getElem? (i := 48) rfl))) (Or.inr (hw _ (List.mem_of_getElem? (i := 58) rfl))) (by decide) (by decide : parseFieldDescriptor "Lcom/example/resolve_place/resolveplace/parser/WhatType;" = some (.object "com/example/resolve_place/resolveplace/parser/WhatType")) (by decide : parseFieldDescriptor "Ljava/util/List;" = some (.object "java/util/List"))))
  replace F4 := F4.other Wz (Or.inr (slot_ne (Or.inr (hw _ (List.mem_of_getElem? (i := 50) rfl))) (Or.inr (hw _ (List.mem_of_getElem? (i := 58) rfl))) (by decide) (by decide : parseFieldDescriptor "Lcom/example/resolve_place/resolveplace/parser/GeoRelation;" = some (.object "com/example/resolve_place/resolveplace/parser/GeoRelation")) (by decide : parseFieldDescriptor "Ljava/util/List;" = some (.object "java/util/List"))))
  replace F5 := F5.same Wz
  replace X := X.wr Wz
  replace P1 := P1.wr Wz X' (hw _ (List.mem_of_getElem? (i := 31) rfl)) (by decide) (by decide)
  exact Run.retv hK (by decide +kernel) (by decide) (by decide) ⟨rfl, p1, ⟨X, F5⟩, P1⟩
set_option maxRecDepth 65536 in
set_option maxHeartbeats 40000000 in
theorem c_isl {l : Launch} {Z : State} {a0 : Array Value} {z0 : Int32} {fm : Value} (G : Env1 Z a0 z0 fm) (x0 p EM : Addr) {n : Int32} (h : Heap) (P : PQo Z h x0 p) (Q1 : Pl Z h p EM n) : Ctr Z consts_1 false l [] (⟨"com/example/resolve_place/resolveplace/parser/ParsedQuery", "isLocal", "()Z"⟩ : MethodName) prog_30_method_5_code 1 (some .boolean) ({ frames := 1, cells := 0, slots := 0, locals := 16 } : Room) #[(.ref x0)] h [] (fun v h' => h' = h ∧ v = some (.int (if n = 0 then 0 else 1))) := by
  obtain ⟨hw, hEL, O2, P5, O4⟩ := id G
  refine Ctr.of_run (a0 := a0) (L0 := #[.val (.ref x0)]) (plainFor_of_name pn_pq) hEL (by first | (simp [argsToLocals, Value.category, maxLocals]; done) | rfl) (fun K hK => ?_)
  refine Run.pure hK (seg := [(0, .aload_n 0, 1)]) (by decide +kernel) (pc' := 1) (L' := #[.val (.ref x0)]) (S' := [(.ref x0)]) rfl ?_
  refine Run.getf hK (index := 57) (host := "") (Or.inl (hw _ (List.mem_of_getElem? (i := 57) rfl))) Via.refl P.2 (by decide +kernel) ?_
  rcases Q1 with ⟨f1, e, f2, f3⟩ | ⟨f1, b, k, vs, f2, f3⟩
  · refine Run.iface hK (index := 7) (count := 1) (y := (⟨"java/util/List", "isEmpty", "()Z"⟩ : MethodName)) (z := (⟨"java/util/ImmutableCollections$List12", "isEmpty", "()Z"⟩ : MethodName)) (C := "java/util/ImmutableCollections$List12") (Wt := 0) (kc := 0) (ks := 0) (fun _ _ z => mv z (hw _ (List.mem_of_getElem? (i := 64) rfl))) (fun _ _ z => mv z (hw _ (List.mem_of_getElem? (i := 65) rfl))) (fun _ _ z => mv z (hw _ (List.mem_of_getElem? (i := 66) rfl))) (fun _ _ z => mv z (hw _ (List.mem_of_getElem? (i := 263) rfl))) (fun _ _ z => mv z (hw _ (List.mem_of_getElem? (i := 264) rfl))) (fun _ _ z => mv z (hw _ (List.mem_of_getElem? (i := 265) rfl))) (fun _ _ z => mv z (hw _ (List.mem_of_getElem? (i := 266) rfl))) (fun _ _ z => mv z (hw _ (List.mem_of_getElem? (i := 267) rfl))) (by decide) (a := p) f1 (W' := []) (fun _ q => nomatch q) (Ctr.cal (len := 5) (c_e12 G p h) (hw _ (List.mem_of_getElem? (i := 268) rfl)) (hw _ (List.mem_of_getElem? (i := 236) rfl)) (by decide) (by decide)) rfl (argsL := []) (rest := []) (lenOf pd_z rfl) rfl (Nat.le_of_ble_eq_true rfl) (by decide +kernel) (by decide) (by decide) (fun v1 h1 q1 n1 => ?_)
    obtain ⟨rfl, rfl⟩ := q1
    refine Run.ifz hK (cd := .ne) (o := 7) (by decide +kernel) (by decide) (pc' := 16) rfl (fun q => by replace q := (h_ne _ _).1 q; exact absurd rfl q) (fun _ => ?_)
    refine Run.pure hK (seg := [(12, .iconst 1, 1), (13, .goto 4, 3)]) (by decide +kernel) (pc' := 17) (L' := #[.val (.ref x0)]) (S' := [(.int (1 : Int32))]) rfl ?_
    exact Run.retw hK (i := .ireturn) rfl (Or.inl ⟨rfl, Or.inr (Or.inl rfl), _, rfl⟩) (by decide +kernel) (by decide) (by decide) ⟨rfl, by rw [if_neg (by rw [f3]; split <;> decide)]⟩
  · refine Run.iface hK (index := 7) (count := 1) (y := (⟨"java/util/List", "isEmpty", "()Z"⟩ : MethodName)) (z := (⟨"java/util/ImmutableCollections$ListN", "isEmpty", "()Z"⟩ : MethodName)) (C := "java/util/ImmutableCollections$ListN") (Wt := 0) (kc := 0) (ks := 0) (fun _ _ z => mv z (hw _ (List.mem_of_getElem? (i := 64) rfl))) (fun _ _ z => mv z (hw _ (List.mem_of_getElem? (i := 65) rfl))) (fun _ _ z => mv z (hw _ (List.mem_of_getElem? (i := 66) rfl))) (fun _ _ z => mv z (hw _ (List.mem_of_getElem? (i := 67) rfl))) (fun _ _ z => mv z (hw _ (List.mem_of_getElem? (i := 68) rfl))) (fun _ _ z => mv z (hw _ (List.mem_of_getElem? (i := 69) rfl))) (fun _ _ z => mv z (hw _ (List.mem_of_getElem? (i := 70) rfl))) (fun _ _ z => mv z (hw _ (List.mem_of_getElem? (i := 71) rfl))) (by decide) (a := p) f1 (W' := []) (fun _ q => nomatch q) (Ctr.cal (len := 5) (c_en G p b h f2 f3) (hw _ (List.mem_of_getElem? (i := 73) rfl)) (hw _ (List.mem_of_getElem? (i := 72) rfl)) (by decide) (by decide)) rfl (argsL := []) (rest := []) (lenOf pd_z rfl) rfl (Nat.le_of_ble_eq_true rfl) (by decide +kernel) (by decide) (by decide) (fun v1 h1 q1 n1 => ?_)
    obtain ⟨rfl, rfl⟩ := q1
    by_cases z : n = 0
    · rw [show (if n = 0 then (1 : Int32) else 0) = 1 from if_pos z]
      refine Run.ifz hK (cd := .ne) (o := 7) (by decide +kernel) (by decide) (pc' := 16) rfl (fun _ => ?_) (fun q => by replace q := (h_ne _ _).2 q; exact absurd q (by decide))
      refine Run.pure hK (seg := [(16, .iconst 0, 1)]) (by decide +kernel) (pc' := 17) (L' := #[.val (.ref x0)]) (S' := [(.int (0 : Int32))]) rfl ?_
      exact Run.retw hK (i := .ireturn) rfl (Or.inl ⟨rfl, Or.inr (Or.inl rfl), _, rfl⟩) (by decide +kernel) (by decide) (by decide) ⟨rfl, by rw [if_pos z]⟩
    · rw [show (if n = 0 then (1 : Int32) else 0) = 0 from if_neg z]
      refine Run.ifz hK (cd := .ne) (o := 7) (by decide +kernel) (by decide) (pc' := 16) rfl (fun q => by replace q := (h_ne _ _).1 q; exact absurd rfl q) (fun _ => ?_)
      refine Run.pure hK (seg := [(12, .iconst 1, 1), (13, .goto 4, 3)]) (by decide +kernel) (pc' := 17) (L' := #[.val (.ref x0)]) (S' := [(.int (1 : Int32))]) rfl ?_
      exact Run.retw hK (i := .ireturn) rfl (Or.inl ⟨rfl, Or.inr (Or.inl rfl), _, rfl⟩) (by decide +kernel) (by decide) (by decide) ⟨rfl, by rw [if_neg z]⟩
set_option maxRecDepth 65536 in
set_option maxHeartbeats 40000000 in
theorem c_pl {l : Launch} {Z : State} {a0 : Array Value} {z0 : Int32} {fm : Value} (G : Env1 Z a0 z0 fm) (x0 p : Addr) (h : Heap) (P : PQo Z h x0 p) : Ctr Z consts_1 false l [] (⟨"com/example/resolve_place/resolveplace/parser/ParsedQuery", "places", "()Ljava/util/List;"⟩ : MethodName) prog_30_method_9_code 1 (some (.object "java/util/List")) ({ frames := 0, cells := 0, slots := 0, locals := 0 } : Room) #[(.ref x0)] h [] (fun v h' => h' = h ∧ v = some (.ref p)) := by
  obtain ⟨hw, hEL, O2, P5, O4⟩ := id G
  refine Ctr.of_run (a0 := a0) (L0 := #[.val (.ref x0)]) (plainFor_of_name pn_pq) hEL (by first | (simp [argsToLocals, Value.category, maxLocals]; done) | rfl) (fun K hK => ?_)
  refine Run.pure hK (seg := [(0, .aload_n 0, 1)]) (by decide +kernel) (pc' := 1) (L' := #[.val (.ref x0)]) (S' := [(.ref x0)]) rfl ?_
  refine Run.getf hK (index := 57) (host := "") (Or.inl (hw _ (List.mem_of_getElem? (i := 57) rfl))) Via.refl P.2 (by decide +kernel) ?_
  exact Run.retw hK (i := .areturn) rfl (Or.inr (Or.inr (Or.inr (Or.inr ⟨rfl, rfl, rfl⟩)))) (by decide +kernel) (by decide) (by decide) ⟨rfl, rfl⟩
set_option maxRecDepth 65536 in
set_option maxHeartbeats 40000000 in
theorem c_law {l : Launch} {Z : State} {a0 : Array Value} {z0 : Int32} {fm : Value} (G : Env1 Z a0 z0 fm) (i0 i1 i2 i3 i4 i5 : Int32) (IA : ICa Z) {N1 E0 e0 EM mr : Addr} {k1 k2 : ClassId} (LX : LF Z N1 E0 e0 EM mr k1 k2) (EN : EnW Z "MAP" ∧ EnG Z "IN" ∧ EnG Z "NEAR" ∧ EnG Z "UNDEFINED" ∧ EnW Z "INFORMATION" ∧ EnG Z "DEFINITION" ∧ EnW Z "YELLOW_PAGE") (h : Heap) : Ctr Z consts_1 false l tables_1 x code maxLocals ret room_1 #[(.int i0), (.int i1), (.int i2), (.int i3), (.int i4), (.int i5)] h [] (fun v h' => v = some (.int 1)) := by
  obtain ⟨hw, hEL, O2, P5, O4⟩ := id G
  refine Ctr.of_run (a0 := a0) (L0 := #[.val (.int i0), .val (.int i1), .val (.int i2), .val (.int i3), .val (.int i4), .val (.int i5), .unset, .unset, .unset, .unset, .unset, .unset, .unset, .unset, .unset, .unset]) (plainFor_of_name pn_law) hEL (by first | (simp [argsToLocals, Value.category, maxLocals]; done) | rfl) (fun K hK => ?_)
  replace hK : Ok Z consts_1 a0 l "com/example/resolve_place/resolveplace/parser/ParsedQueryIsLocalPinLaw" "law" code 16 (some .boolean) room_1 K := hK
  have LX' := LX
  obtain ⟨SD, AD, SE, XE, FE, AE, SM, XM, MI⟩ := id LX
  obtain ⟨⟨aMAP, SMAP, XMAP⟩, ⟨aIN, SIN, XIN⟩, ⟨aNEAR, SNEAR, XNEAR⟩, ⟨aUNDEFINED, SUNDEFINED, XUNDEFINED⟩, ⟨aINFORMATION, SINFORMATION, XINFORMATION⟩, ⟨aDEFINITION, SDEFINITION, XDEFINITION⟩, ⟨aYELLOW_PAGE, SYELLOW_PAGE, XYELLOW_PAGE⟩⟩ := EN
  refine Run.pure hK (seg := [(0, .iload_n 1, 1)]) (by decide +kernel) (pc' := 1) (L' := #[.val (.int i0), .val (.int i1), .val (.int i2), .val (.int i3), .val (.int i4), .val (.int i5), .unset, .unset, .unset, .unset, .unset, .unset, .unset, .unset, .unset, .unset]) (S' := [(.int i1)]) rfl ?_
  refine Run.static hK (index := 16) (y := (⟨"com/example/resolve_place/resolveplace/parser/ParsedQueryIsLocalPinLaw", "drawn", "(I)Ljava/lang/String;"⟩ : MethodName)) (Wt := 0) (kc := 6) (ks := 16) (hw _ (List.mem_of_getElem? (i := 0) rfl)) (hw _ (List.mem_of_getElem? (i := 1) rfl)) (hw _ (List.mem_of_getElem? (i := 2) rfl)) (hw _ (List.mem_of_getElem? (i := 3) rfl)) (by decide) (W' := []) (fun _ q => nomatch q) (Ctr.cal (c_dr G i1 h) (hw _ (List.mem_of_getElem? (i := 3) rfl)) (hw _ (List.mem_of_getElem? (i := 2) rfl)) (by decide) (by decide)) rfl (argsL := [(.int i1)]) (rest := []) (lenOf pd_dr rfl) rfl (Nat.le_of_ble_eq_true rfl) (by decide +kernel) (by decide) (by decide) (fun vq hq qq nq => ?_)
  obtain ⟨sq, rfl, Xq, Yq⟩ := qq
  refine Run.pure hK (seg := [(4, .astore 6, 2), (6, .iload_n 0, 1), (7, .iconst 1, 1), (8, .iand, 1)]) (by decide +kernel) (pc' := 9) (L' := #[.val (.int i0), .val (.int i1), .val (.int i2), .val (.int i3), .val (.int i4), .val (.int i5), .val (.ref sq), .unset, .unset, .unset, .unset, .unset, .unset, .unset, .unset, .unset]) (S' := [(.int (i0 &&& (1 : Int32)))]) rfl ?_
  refine Run.ifz hK (cd := .eq) (o := 7) (by decide +kernel) (by decide) (pc' := 16) rfl (fun qf => ?_) (fun qf => ?_)
  · replace qf := (h_eq _ _).1 qf
    refine Run.pure hK (seg := [(16, .iconst 0, 1), (17, .istore 7, 2), (19, .iload 7, 2)]) (by decide +kernel) (pc' := 21) (L' := #[.val (.int i0), .val (.int i1), .val (.int i2), .val (.int i3), .val (.int i4), .val (.int i5), .val (.ref sq), .val (.int (0 : Int32)), .unset, .unset, .unset, .unset, .unset, .unset, .unset, .unset]) (S' := [(.int (0 : Int32))]) rfl ?_
    refine Run.ifz hK (cd := .ne) (o := 37) (by decide +kernel) (by decide) (pc' := 58) rfl (fun q => by replace q := (h_ne _ _).1 q; exact absurd rfl q) (fun _ => ?_)
    refine Run.pure hK (seg := [(24, .aload 6, 2)]) (by decide +kernel) (pc' := 26) (L' := #[.val (.int i0), .val (.int i1), .val (.int i2), .val (.int i3), .val (.int i4), .val (.int i5), .val (.ref sq), .val (.int (0 : Int32)), .unset, .unset, .unset, .unset, .unset, .unset, .unset, .unset]) (S' := [(.ref sq)]) rfl ?_
    refine Run.static hK (index := 22) (y := (⟨"com/example/resolve_place/resolveplace/parser/ParsedQuery", "notLocal", "(Ljava/lang/String;)Lcom/example/resolve_place/resolveplace/parser/ParsedQuery;"⟩ : MethodName)) (Wt := 0) (kc := 5) (ks := 33) (hw _ (List.mem_of_getElem? (i := 26) rfl)) (hw _ (List.mem_of_getElem? (i := 27) rfl)) (hw _ (List.mem_of_getElem? (i := 28) rfl)) (hw _ (List.mem_of_getElem? (i := 29) rfl)) (by decide) (W' := []) (fun _ q => nomatch q) (Ctr.cal (c_nl G sq LX hq Xq) (hw _ (List.mem_of_getElem? (i := 29) rfl)) (hw _ (List.mem_of_getElem? (i := 28) rfl)) (by decide) (by decide)) rfl (argsL := [(.ref sq)]) (rest := []) (lenOf pd_nl rfl) rfl (Nat.le_of_ble_eq_true rfl) (by decide +kernel) (by decide) (by decide) (fun vn hn qn nn => ?_)
    obtain ⟨pn, rfl, Pn, Yn⟩ := qn
    refine Run.old (fun hO => ?_)
    have PL0 : Pl Z hn E0 EM 0 := Or.inr ⟨XE.ext hO, e0, k2, [], FE.ext hO, AE.ext hO⟩
    refine Run.pure hK (seg := [(29, .astore 8, 2), (31, .aload 8, 2)]) (by decide +kernel) (pc' := 33) (L' := #[.val (.int i0), .val (.int i1), .val (.int i2), .val (.int i3), .val (.int i4), .val (.int i5), .val (.ref sq), .val (.int (0 : Int32)), .val (.ref pn), .unset, .unset, .unset, .unset, .unset, .unset, .unset]) (S' := [(.ref pn)]) rfl ?_
    refine Run.virtual hK (index := 28) (y := (⟨"com/example/resolve_place/resolveplace/parser/ParsedQuery", "isLocal", "()Z"⟩ : MethodName)) (z := (⟨"com/example/resolve_place/resolveplace/parser/ParsedQuery", "isLocal", "()Z"⟩ : MethodName)) (C := "com/example/resolve_place/resolveplace/parser/ParsedQuery") (Wt := 0) (kc := 0) (ks := 0) (hw _ (List.mem_of_getElem? (i := 59) rfl)) (hw _ (List.mem_of_getElem? (i := 60) rfl)) (nfS (hw _ (List.mem_of_getElem? (i := 62) rfl))) (hw _ (List.mem_of_getElem? (i := 62) rfl)) (hw _ (List.mem_of_getElem? (i := 61) rfl)) (by decide) (a := pn) Pn.1 (W' := []) (fun _ q => nomatch q) (Ctr.cal (c_isl G pn E0 EM hn Pn PL0) (hw _ (List.mem_of_getElem? (i := 63) rfl)) (hw _ (List.mem_of_getElem? (i := 28) rfl)) (by decide) (by decide)) rfl (argsL := []) (rest := []) (lenOf pd_z rfl) rfl (Nat.le_of_ble_eq_true rfl) (by decide +kernel) (by decide) (by decide) (fun vi hi qi ni => ?_)
    obtain ⟨rfl, rfl⟩ := qi
    rw [if_pos rfl]
    refine Run.ifz hK (cd := .ne) (o := 20) (by decide +kernel) (by decide) (pc' := 56) rfl (fun q => by replace q := (h_ne _ _).1 q; exact absurd rfl q) (fun _ => ?_)
    refine Run.pure hK (seg := [(39, .aload 8, 2)]) (by decide +kernel) (pc' := 41) (L' := #[.val (.int i0), .val (.int i1), .val (.int i2), .val (.int i3), .val (.int i4), .val (.int i5), .val (.ref sq), .val (.int (0 : Int32)), .val (.ref pn), .unset, .unset, .unset, .unset, .unset, .unset, .unset]) (S' := [(.ref pn)]) rfl ?_
    refine Run.virtual hK (index := 32) (y := (⟨"com/example/resolve_place/resolveplace/parser/ParsedQuery", "places", "()Ljava/util/List;"⟩ : MethodName)) (z := (⟨"com/example/resolve_place/resolveplace/parser/ParsedQuery", "places", "()Ljava/util/List;"⟩ : MethodName)) (C := "com/example/resolve_place/resolveplace/parser/ParsedQuery") (Wt := 0) (kc := 0) (ks := 0) (hw _ (List.mem_of_getElem? (i := 76) rfl)) (hw _ (List.mem_of_getElem? (i := 77) rfl)) (nfS (hw _ (List.mem_of_getElem? (i := 79) rfl))) (hw _ (List.mem_of_getElem? (i := 79) rfl)) (hw _ (List.mem_of_getElem? (i := 78) rfl)) (by decide) (a := pn) Pn.1 (W' := []) (fun _ q => nomatch q) (Ctr.cal (c_pl G pn E0 hi Pn) (hw _ (List.mem_of_getElem? (i := 80) rfl)) (hw _ (List.mem_of_getElem? (i := 28) rfl)) (by decide) (by decide)) rfl (argsL := []) (rest := []) (lenOf pd_lo rfl) rfl (Nat.le_of_ble_eq_true rfl) (by decide +kernel) (by decide) (by decide) (fun vj hj qj nj => ?_)
    obtain ⟨rfl, rfl⟩ := qj
    refine Run.iface hK (index := 36) (count := 1) (y := (⟨"java/util/List", "isEmpty", "()Z"⟩ : MethodName)) (z := (⟨"java/util/ImmutableCollections$ListN", "isEmpty", "()Z"⟩ : MethodName)) (C := "java/util/ImmutableCollections$ListN") (Wt := 0) (kc := 0) (ks := 0) (fun _ _ z => mv z (hw _ (List.mem_of_getElem? (i := 81) rfl))) (fun _ _ z => mv z (hw _ (List.mem_of_getElem? (i := 65) rfl))) (fun _ _ z => mv z (hw _ (List.mem_of_getElem? (i := 66) rfl))) (fun _ _ z => mv z (hw _ (List.mem_of_getElem? (i := 67) rfl))) (fun _ _ z => mv z (hw _ (List.mem_of_getElem? (i := 68) rfl))) (fun _ _ z => mv z (hw _ (List.mem_of_getElem? (i := 69) rfl))) (fun _ _ z => mv z (hw _ (List.mem_of_getElem? (i := 70) rfl))) (fun _ _ z => mv z (hw _ (List.mem_of_getElem? (i := 71) rfl))) (by decide) (a := E0) (XE.ext hO) (W' := []) (fun _ q => nomatch q) (Ctr.cal (len := 5) (c_en G E0 e0 hj (FE.ext hO) (AE.ext hO)) (hw _ (List.mem_of_getElem? (i := 73) rfl)) (hw _ (List.mem_of_getElem? (i := 72) rfl)) (by decide) (by decide)) rfl (argsL := []) (rest := []) (lenOf pd_z rfl) rfl (Nat.le_of_ble_eq_true rfl) (by decide +kernel) (by decide) (by decide) (fun vk hk qk nk => ?_)
    obtain ⟨rfl, rfl⟩ := qk
    rw [if_pos rfl]
    refine Run.ifz hK (cd := .eq) (o := 7) (by decide +kernel) (by decide) (pc' := 56) rfl (fun q => by replace q := (h_eq _ _).1 q; exact absurd q (by decide)) (fun _ => ?_)
    refine Run.pure hK (seg := [(52, .iconst 1, 1), (53, .goto 4, 3)]) (by decide +kernel) (pc' := 57) (L' := #[.val (.int i0), .val (.int i1), .val (.int i2), .val (.int i3), .val (.int i4), .val (.int i5), .val (.ref sq), .val (.int (0 : Int32)), .val (.ref pn), .unset, .unset, .unset, .unset, .unset, .unset, .unset]) (S' := [(.int (1 : Int32))]) rfl ?_
    exact Run.retw hK (i := .ireturn) rfl (Or.inl ⟨rfl, Or.inr (Or.inl rfl), _, rfl⟩) (by decide +kernel) (by decide) (by decide) rfl
  · replace qf := (h_eq _ _).2 qf
    refine Run.pure hK (seg := [(12, .iconst 1, 1), (13, .goto 4, 3), (17, .istore 7, 2), (19, .iload 7, 2)]) (by decide +kernel) (pc' := 21) (L' := #[.val (.int i0), .val (.int i1), .val (.int i2), .val (.int i3), .val (.int i4), .val (.int i5), .val (.ref sq), .val (.int (1 : Int32)), .unset, .unset, .unset, .unset, .unset, .unset, .unset, .unset]) (S' := [(.int (1 : Int32))]) rfl ?_
    refine Run.ifz hK (cd := .ne) (o := 37) (by decide +kernel) (by decide) (pc' := 58) rfl (fun _ => ?_) (fun q => by replace q := (h_ne _ _).2 q; exact absurd q (by decide))
    refine Run.pure hK (seg := [(58, .iload_n 2, 1)]) (by decide +kernel) (pc' := 59) (L' := #[.val (.int i0), .val (.int i1), .val (.int i2), .val (.int i3), .val (.int i4), .val (.int i5), .val (.ref sq), .val (.int (1 : Int32)), .unset, .unset, .unset, .unset, .unset, .unset, .unset, .unset]) (S' := [(.int i2)]) rfl ?_
    refine Run.static hK (index := 16) (y := (⟨"com/example/resolve_place/resolveplace/parser/ParsedQueryIsLocalPinLaw", "drawn", "(I)Ljava/lang/String;"⟩ : MethodName)) (Wt := 0) (kc := 6) (ks := 16) (hw _ (List.mem_of_getElem? (i := 0) rfl)) (hw _ (List.mem_of_getElem? (i := 1) rfl)) (hw _ (List.mem_of_getElem? (i := 2) rfl)) (hw _ (List.mem_of_getElem? (i := 3) rfl)) (by decide) (W' := []) (fun _ q => nomatch q) (Ctr.cal (c_dr G i2 hq) (hw _ (List.mem_of_getElem? (i := 3) rfl)) (hw _ (List.mem_of_getElem? (i := 2) rfl)) (by decide) (by decide)) rfl (argsL := [(.int i2)]) (rest := []) (lenOf pd_dr rfl) rfl (Nat.le_of_ble_eq_true rfl) (by decide +kernel) (by decide) (by decide) (fun vk hk qk nk => ?_)
    obtain ⟨sk, rfl, Xk, Yk⟩ := qk
    replace Xq := Xq.ext Yk
    refine Run.old (fun hO => ?_)
    refine Run.pure hK (seg := [(62, .astore 8, 2)]) (by decide +kernel) (pc' := 64) (L' := #[.val (.int i0), .val (.int i1), .val (.int i2), .val (.int i3), .val (.int i4), .val (.int i5), .val (.ref sq), .val (.int (1 : Int32)), .val (.ref sk), .unset, .unset, .unset, .unset, .unset, .unset, .unset]) (S' := []) rfl ?_
    refine Run.gets hK (index := 41) (hw _ (List.mem_of_getElem? (i := 82) rfl)) Via.refl (SMAP.ext hO) (by decide +kernel) ?_
    refine Run.pure hK (seg := [(67, .astore 9, 2), (69, .iload_n 3, 1), (70, .iconst 3, 1), (71, .iand, 1), (72, .istore 10, 2)]) (by decide +kernel) (pc' := 74) (L' := #[.val (.int i0), .val (.int i1), .val (.int i2), .val (.int i3), .val (.int i4), .val (.int i5), .val (.ref sq), .val (.int (1 : Int32)), .val (.ref sk), .val (.ref aMAP), .val (.int (i3 &&& (3 : Int32))), .unset, .unset, .unset, .unset, .unset]) (S' := []) rfl ?_
    obtain ⟨tt, e_tt⟩ : ∃ z : Int32, z = (i3 &&& (3 : Int32)) := ⟨_, rfl⟩
    rw [← e_tt]
    clear e_tt
    have j99 : ∀ wt, Exa Z Z.heap wt "com/example/resolve_place/resolveplace/parser/WhatType" → Run Z consts_1 false K (fun v h' => v = some (.int 1)) [] hk 12 32 99 #[.val (.int i0), .val (.int i1), .val (.int i2), .val (.int i3), .val (.int i4), .val (.int i5), .val (.ref sq), .val (.int (1 : Int32)), .val (.ref sk), .val (.ref wt), .val (.int tt), .unset, .unset, .unset, .unset, .unset] [] := by
      intro wt Xt
      refine Run.gets hK (index := 53) (hw _ (List.mem_of_getElem? (i := 85) rfl)) Via.refl (SIN.ext hO) (by decide +kernel) ?_
      refine Run.pure hK (seg := [(102, .astore 11, 2), (104, .iload 4, 2), (106, .iconst 3, 1), (107, .iand, 1), (108, .istore 12, 2)]) (by decide +kernel) (pc' := 110) (L' := #[.val (.int i0), .val (.int i1), .val (.int i2), .val (.int i3), .val (.int i4), .val (.int i5), .val (.ref sq), .val (.int (1 : Int32)), .val (.ref sk), .val (.ref wt), .val (.int tt), .val (.ref aIN), .val (.int (i4 &&& (3 : Int32))), .unset, .unset, .unset]) (S' := []) rfl ?_
      obtain ⟨rr, e_rr⟩ : ∃ z : Int32, z = (i4 &&& (3 : Int32)) := ⟨_, rfl⟩
      rw [← e_rr]
      clear e_rr
      have j149 : ∀ rl, Exa Z Z.heap rl "com/example/resolve_place/resolveplace/parser/GeoRelation" → Run Z consts_1 false K (fun v h' => v = some (.int 1)) [] hk 12 32 149 #[.val (.int i0), .val (.int i1), .val (.int i2), .val (.int i3), .val (.int i4), .val (.int i5), .val (.ref sq), .val (.int (1 : Int32)), .val (.ref sk), .val (.ref wt), .val (.int tt), .val (.ref rl), .val (.int rr), .unset, .unset, .unset] [] := by
        intro rl Xr
        refine Run.pure hK (seg := [(149, .iconst 1, 1), (150, .iload 5, 2)]) (by decide +kernel) (pc' := 152) (L' := #[.val (.int i0), .val (.int i1), .val (.int i2), .val (.int i3), .val (.int i4), .val (.int i5), .val (.ref sq), .val (.int (1 : Int32)), .val (.ref sk), .val (.ref wt), .val (.int tt), .val (.ref rl), .val (.int rr), .unset, .unset, .unset]) (S' := [(.int i5), (.int (1 : Int32))]) rfl ?_
        refine Run.ldci hK (index := 68) (hw _ (List.mem_of_getElem? (i := 90) rfl)) (by decide +kernel) ?_
        refine Run.pure hK (seg := [(154, .iand, 1), (155, .iconst 3, 1), (156, .irem, 1), (157, .iadd, 1), (158, .istore 13, 2)]) (by decide +kernel) (pc' := 160) (L' := #[.val (.int i0), .val (.int i1), .val (.int i2), .val (.int i3), .val (.int i4), .val (.int i5), .val (.ref sq), .val (.int (1 : Int32)), .val (.ref sk), .val (.ref wt), .val (.int tt), .val (.ref rl), .val (.int rr), .val (.int ((1 : Int32) + ((i5 &&& (2147483647 : Int32)) % (3 : Int32)))), .unset, .unset]) (S' := []) rfl ?_
        have hc := cnt3 i5
        obtain ⟨cn, e_cn⟩ : ∃ z : Int32, z = ((1 : Int32) + ((i5 &&& (2147483647 : Int32)) % (3 : Int32))) := ⟨_, rfl⟩
        rw [← e_cn] at hc ⊢
        clear e_cn
        rcases hc with rfl | rfl | rfl
        · refine Run.new hK (index := 69) (C := "java/util/ArrayList") (n := 3) (hw _ (List.mem_of_getElem? (i := 91) rfl)) (hw _ (List.mem_of_getElem? (i := 92) rfl)) (hw _ (List.mem_of_getElem? (i := 93) rfl)) (by decide +kernel) (by decide) (by decide) (fun hl El Xl Dl => ?_)
          obtain ⟨al, zl⟩ : ∃ z, z = hk.size := ⟨_, rfl⟩
          rw [← zl]
          rw [← zl] at Xl Dl
          refine Run.pure hK (seg := [(163, .dup, 1)]) (by decide +kernel) (pc' := 164) (L' := #[.val (.int i0), .val (.int i1), .val (.int i2), .val (.int i3), .val (.int i4), .val (.int i5), .val (.ref sq), .val (.int (1 : Int32)), .val (.ref sk), .val (.ref wt), .val (.int tt), .val (.ref rl), .val (.int rr), .val (.int (1 : Int32)), .unset, .unset]) (S' := [(.ref al), (.ref al)]) rfl ?_
          refine Run.special hK (index := 71) (y := (⟨"java/util/ArrayList", "<init>", "()V"⟩ : MethodName)) (Wt := 1) (kc := 0) (ks := 0) rfl (hw _ (List.mem_of_getElem? (i := 94) rfl)) (hw _ (List.mem_of_getElem? (i := 95) rfl)) (hw _ (List.mem_of_getElem? (i := 96) rfl)) (by decide) (a := al) (W' := []) (fun _ q => nomatch q) (Ctr.cal (c_ali G al LX hl (by rw [zl]; exact hO.1) Xl ⟨Dl (Or.inl (hw _ (List.mem_of_getElem? (i := 114) rfl))) (ty := (.array (.object "java/lang/Object"))) (by decide), Dl (Or.inl (hw _ (List.mem_of_getElem? (i := 144) rfl))) (ty := .int) (by decide), Dl (Or.inl (hw _ (List.mem_of_getElem? (i := 111) rfl))) (ty := .int) (by decide)⟩) (hw _ (List.mem_of_getElem? (i := 96) rfl)) (hw _ (List.mem_of_getElem? (i := 93) rfl)) (by decide) (by decide)) rfl (argsL := []) (rest := [(.ref al)]) (lenOf pd_v rfl) rfl (Nat.le_of_ble_eq_true rfl) (by decide +kernel) (by decide) (by decide) (fun va ha qa na => ?_)
          obtain ⟨rfl, Xl', Fl, Ka⟩ := qa
          have hl0 : Z.heap.size ≤ al := by rw [zl]; exact hO.1
          replace Xq := (Xq.ext El).keep Ka
          replace Xk := (Xk.ext El).keep Ka
          refine Run.pure hK (seg := [(167, .astore 14, 2), (169, .aload 14, 2), (171, .iload 5, 2)]) (by decide +kernel) (pc' := 173) (L' := #[.val (.int i0), .val (.int i1), .val (.int i2), .val (.int i3), .val (.int i4), .val (.int i5), .val (.ref sq), .val (.int (1 : Int32)), .val (.ref sk), .val (.ref wt), .val (.int tt), .val (.ref rl), .val (.int rr), .val (.int (1 : Int32)), .val (.ref al), .unset]) (S' := [(.int i5), (.ref al)]) rfl ?_
          refine Run.static hK (index := 72) (y := (⟨"java/lang/Integer", "valueOf", "(I)Ljava/lang/Integer;"⟩ : MethodName)) (Wt := 1) (kc := 1) (ks := 1) (hw _ (List.mem_of_getElem? (i := 115) rfl)) (hw _ (List.mem_of_getElem? (i := 116) rfl)) (hw _ (List.mem_of_getElem? (i := 117) rfl)) (hw _ (List.mem_of_getElem? (i := 118) rfl)) (by decide) (W' := []) (fun _ q => nomatch q) (Ctr.cal (c_ival G i5 ha IA) (hw _ (List.mem_of_getElem? (i := 118) rfl)) (hw _ (List.mem_of_getElem? (i := 117) rfl)) (by decide) (by decide)) rfl (argsL := [(.int i5)]) (rest := [(.ref al)]) (lenOf pd_ival rfl) rfl (Nat.le_of_ble_eq_true rfl) (by decide +kernel) (by decide) (by decide) (fun vv1 hv1 qv1 nv1 => ?_)
          obtain ⟨b1, rfl, XI1, Y1⟩ := qv1
          replace Xq := Xq.ext Y1
          replace Xk := Xk.ext Y1
          refine Run.virtual hK (index := 77) (y := (⟨"java/util/ArrayList", "add", "(Ljava/lang/Object;)Z"⟩ : MethodName)) (z := (⟨"java/util/ArrayList", "add", "(Ljava/lang/Object;)Z"⟩ : MethodName)) (C := "java/util/ArrayList") (Wt := 0) (kc := 1) (ks := 10) (hw _ (List.mem_of_getElem? (i := 136) rfl)) (hw _ (List.mem_of_getElem? (i := 137) rfl)) (nfS (hw _ (List.mem_of_getElem? (i := 139) rfl))) (hw _ (List.mem_of_getElem? (i := 139) rfl)) (hw _ (List.mem_of_getElem? (i := 138) rfl)) (by decide) (a := al) (Xl'.ext Y1) (W' := []) (fun _ q => nomatch q) (Ctr.cal (c_add0 G al b1 LX hv1 hl0 (Xl'.ext Y1) ⟨Fl.1.ext Y1, Fl.2.1.ext Y1, Fl.2.2.ext Y1⟩ XI1) (hw _ (List.mem_of_getElem? (i := 140) rfl)) (hw _ (List.mem_of_getElem? (i := 93) rfl)) (by decide) (by decide)) rfl (argsL := [(.ref b1)]) (rest := []) (lenOf pd_add rfl) rfl (Nat.le_of_ble_eq_true rfl) (by decide +kernel) (by decide) (by decide) (fun vd1 hd1 qd1 nd1 => ?_)
          obtain ⟨rfl, ar, kr, Al, gr, K1⟩ := qd1
          replace Xq := Xq.keep K1
          replace Xk := Xk.keep K1
          replace XI1 := XI1.keep K1
          refine Run.pure hK (seg := [(179, .pop, 1), (180, .iload 13, 2), (182, .iconst 2, 1)]) (by decide +kernel) (pc' := 183) (L' := #[.val (.int i0), .val (.int i1), .val (.int i2), .val (.int i3), .val (.int i4), .val (.int i5), .val (.ref sq), .val (.int (1 : Int32)), .val (.ref sk), .val (.ref wt), .val (.int tt), .val (.ref rl), .val (.int rr), .val (.int (1 : Int32)), .val (.ref al), .unset]) (S' := [(.int (2 : Int32)), (.int (1 : Int32))]) rfl ?_
          refine Run.icmp hK (cd := .lt) (o := 13) (by decide +kernel) (by decide) (pc' := 196) rfl (fun _ => ?_) (fun q => by replace q := (h_lt _ _).2 q; exact absurd q (by decide))
          refine Run.pure hK (seg := [(196, .iload 13, 2), (198, .iconst 3, 1)]) (by decide +kernel) (pc' := 199) (L' := #[.val (.int i0), .val (.int i1), .val (.int i2), .val (.int i3), .val (.int i4), .val (.int i5), .val (.ref sq), .val (.int (1 : Int32)), .val (.ref sk), .val (.ref wt), .val (.int tt), .val (.ref rl), .val (.int rr), .val (.int (1 : Int32)), .val (.ref al), .unset]) (S' := [(.int (3 : Int32)), (.int (1 : Int32))]) rfl ?_
          refine Run.icmp hK (cd := .lt) (o := 13) (by decide +kernel) (by decide) (pc' := 212) rfl (fun _ => ?_) (fun q => by replace q := (h_lt _ _).2 q; exact absurd q (by decide))
          refine Run.old (fun hO3 => ?_)
          refine Run.new hK (index := 23) (C := "com/example/resolve_place/resolveplace/parser/ParsedQuery") (n := 5) (hw _ (List.mem_of_getElem? (i := 167) rfl)) (hw _ (List.mem_of_getElem? (i := 31) rfl)) (hw _ (List.mem_of_getElem? (i := 28) rfl)) (by decide +kernel) (by decide) (by decide) (fun hp Ep Xp Dp => ?_)
          obtain ⟨ap, zp⟩ : ∃ z, z = hd1.size := ⟨_, rfl⟩
          rw [← zp]
          rw [← zp] at Xp Dp
          refine Run.pure hK (seg := [(215, .dup, 1), (216, .aload 6, 2), (218, .aload 8, 2), (220, .aload 9, 2), (222, .aload 11, 2), (224, .aload 14, 2)]) (by decide +kernel) (pc' := 226) (L' := #[.val (.int i0), .val (.int i1), .val (.int i2), .val (.int i3), .val (.int i4), .val (.int i5), .val (.ref sq), .val (.int (1 : Int32)), .val (.ref sk), .val (.ref wt), .val (.int tt), .val (.ref rl), .val (.int rr), .val (.int (1 : Int32)), .val (.ref al), .unset]) (S' := [(.ref al), (.ref rl), (.ref wt), (.ref sk), (.ref sq), (.ref ap), (.ref ap)]) rfl ?_
          replace Al := Al.ext Ep
          have hP : Z.heap.size ≤ ap := by rw [zp]; exact hO3.1
          have hO4 := Ext.tr hO3 Ep
          refine Run.special hK (index := 81) (y := (⟨"com/example/resolve_place/resolveplace/parser/ParsedQuery", "<init>", "(Ljava/lang/String;Ljava/lang/String;Lcom/example/resolve_place/resolveplace/parser/WhatType;Lcom/example/resolve_place/resolveplace/parser/GeoRelation;Ljava/util/List;)V"⟩ : MethodName)) (Wt := 1) (kc := 11) (ks := 122) rfl (hw _ (List.mem_of_getElem? (i := 168) rfl)) (hw _ (List.mem_of_getElem? (i := 169) rfl)) (hw _ (List.mem_of_getElem? (i := 170) rfl)) (by decide) (a := ap) (W' := []) (fun _ q => nomatch q) (Ctr.cal (c_pq51 G ap sq sk wt rl al ar b1 LX hp hP Xp (Dp (Or.inr (hw _ (List.mem_of_getElem? (i := 43) rfl))) (ty := (.object "java/lang/String")) (by decide)) (Dp (Or.inr (hw _ (List.mem_of_getElem? (i := 46) rfl))) (ty := (.object "java/lang/String")) (by decide)) (Dp (Or.inr (hw _ (List.mem_of_getElem? (i := 48) rfl))) (ty := (.object "com/example/resolve_place/resolveplace/parser/WhatType")) (by decide)) (Dp (Or.inr (hw _ (List.mem_of_getElem? (i := 50) rfl))) (ty := (.object "com/example/resolve_place/resolveplace/parser/GeoRelation")) (by decide)) (Dp (Or.inr (hw _ (List.mem_of_getElem? (i := 58) rfl))) (ty := (.object "java/util/List")) (by decide)) Al (XI1.ext Ep) (Xq.ext Ep) (Xk.ext Ep) (Xt.ext hO4) (Xr.ext hO4)) (hw _ (List.mem_of_getElem? (i := 170) rfl)) (hw _ (List.mem_of_getElem? (i := 28) rfl)) (by decide) (by decide)) rfl (argsL := [(.ref sq), (.ref sk), (.ref wt), (.ref rl), (.ref al)]) (rest := [(.ref ap)]) (lenOf pd_pq5 rfl) rfl (Nat.le_of_ble_eq_true rfl) (by decide +kernel) (by decide) (by decide) (fun vp5 hp5 qp5 np5 => ?_)
          obtain ⟨rfl, pp, Pp, Lp⟩ := qp5
          refine Run.pure hK (seg := [(229, .astore 15, 2), (231, .aload 15, 2)]) (by decide +kernel) (pc' := 233) (L' := #[.val (.int i0), .val (.int i1), .val (.int i2), .val (.int i3), .val (.int i4), .val (.int i5), .val (.ref sq), .val (.int (1 : Int32)), .val (.ref sk), .val (.ref wt), .val (.int tt), .val (.ref rl), .val (.int rr), .val (.int (1 : Int32)), .val (.ref al), .val (.ref ap)]) (S' := [(.ref ap)]) rfl ?_
          refine Run.virtual hK (index := 28) (y := (⟨"com/example/resolve_place/resolveplace/parser/ParsedQuery", "isLocal", "()Z"⟩ : MethodName)) (z := (⟨"com/example/resolve_place/resolveplace/parser/ParsedQuery", "isLocal", "()Z"⟩ : MethodName)) (C := "com/example/resolve_place/resolveplace/parser/ParsedQuery") (Wt := 0) (kc := 0) (ks := 0) (hw _ (List.mem_of_getElem? (i := 59) rfl)) (hw _ (List.mem_of_getElem? (i := 60) rfl)) (nfS (hw _ (List.mem_of_getElem? (i := 62) rfl))) (hw _ (List.mem_of_getElem? (i := 62) rfl)) (hw _ (List.mem_of_getElem? (i := 61) rfl)) (by decide) (a := ap) Pp.1 (W' := []) (fun _ q => nomatch q) (Ctr.cal (c_isl G ap pp EM hp5 Pp Lp) (hw _ (List.mem_of_getElem? (i := 63) rfl)) (hw _ (List.mem_of_getElem? (i := 28) rfl)) (by decide) (by decide)) rfl (argsL := []) (rest := []) (lenOf pd_z rfl) rfl (Nat.le_of_ble_eq_true rfl) (by decide +kernel) (by decide) (by decide) (fun vi hi qi ni => ?_)
          obtain ⟨rfl, rfl⟩ := qi
          rw [if_neg (by decide)]
          refine Run.ifz hK (cd := .eq) (o := 22) (by decide +kernel) (by decide) (pc' := 258) rfl (fun q => by replace q := (h_eq _ _).1 q; exact absurd q (by decide)) (fun _ => ?_)
          refine Run.pure hK (seg := [(239, .aload 15, 2)]) (by decide +kernel) (pc' := 241) (L' := #[.val (.int i0), .val (.int i1), .val (.int i2), .val (.int i3), .val (.int i4), .val (.int i5), .val (.ref sq), .val (.int (1 : Int32)), .val (.ref sk), .val (.ref wt), .val (.int tt), .val (.ref rl), .val (.int rr), .val (.int (1 : Int32)), .val (.ref al), .val (.ref ap)]) (S' := [(.ref ap)]) rfl ?_
          refine Run.virtual hK (index := 32) (y := (⟨"com/example/resolve_place/resolveplace/parser/ParsedQuery", "places", "()Ljava/util/List;"⟩ : MethodName)) (z := (⟨"com/example/resolve_place/resolveplace/parser/ParsedQuery", "places", "()Ljava/util/List;"⟩ : MethodName)) (C := "com/example/resolve_place/resolveplace/parser/ParsedQuery") (Wt := 0) (kc := 0) (ks := 0) (hw _ (List.mem_of_getElem? (i := 76) rfl)) (hw _ (List.mem_of_getElem? (i := 77) rfl)) (nfS (hw _ (List.mem_of_getElem? (i := 79) rfl))) (hw _ (List.mem_of_getElem? (i := 79) rfl)) (hw _ (List.mem_of_getElem? (i := 78) rfl)) (by decide) (a := ap) Pp.1 (W' := []) (fun _ q => nomatch q) (Ctr.cal (c_pl G ap pp hi Pp) (hw _ (List.mem_of_getElem? (i := 80) rfl)) (hw _ (List.mem_of_getElem? (i := 28) rfl)) (by decide) (by decide)) rfl (argsL := []) (rest := []) (lenOf pd_lo rfl) rfl (Nat.le_of_ble_eq_true rfl) (by decide +kernel) (by decide) (by decide) (fun vj hj qj nj => ?_)
          obtain ⟨rfl, rfl⟩ := qj
          rcases Lp with ⟨f1, e, f2, f3⟩ | ⟨f1, b, k, vs, f2, f3⟩
          · refine Run.iface hK (index := 84) (count := 1) (y := (⟨"java/util/List", "size", "()I"⟩ : MethodName)) (z := (⟨"java/util/ImmutableCollections$List12", "size", "()I"⟩ : MethodName)) (C := "java/util/ImmutableCollections$List12") (Wt := 0) (kc := 0) (ks := 0) (fun _ _ z => mv z (hw _ (List.mem_of_getElem? (i := 269) rfl))) (fun _ _ z => mv z (hw _ (List.mem_of_getElem? (i := 270) rfl))) (fun _ _ z => mv z (hw _ (List.mem_of_getElem? (i := 271) rfl))) (fun _ _ z => mv z (hw _ (List.mem_of_getElem? (i := 272) rfl))) (fun _ _ z => mv z (hw _ (List.mem_of_getElem? (i := 273) rfl))) (fun _ _ z => mv z (hw _ (List.mem_of_getElem? (i := 274) rfl))) (fun _ _ z => mv z (hw _ (List.mem_of_getElem? (i := 275) rfl))) (fun _ _ z => mv z (hw _ (List.mem_of_getElem? (i := 267) rfl))) (by decide) (a := pp) f1 (W' := []) (fun _ q => nomatch q) (Ctr.cal (len := 5) (c_s12 G pp e LX hj f2) (hw _ (List.mem_of_getElem? (i := 276) rfl)) (hw _ (List.mem_of_getElem? (i := 236) rfl)) (by decide) (by decide)) rfl (argsL := []) (rest := []) (lenOf pd_i rfl) rfl (Nat.le_of_ble_eq_true rfl) (by decide +kernel) (by decide) (by decide) (fun vs hs qs ns => ?_)
            obtain ⟨rfl, rfl⟩ := qs
            rw [← f3]
            refine Run.pure hK (seg := [(249, .iload 13, 2)]) (by decide +kernel) (pc' := 251) (L' := #[.val (.int i0), .val (.int i1), .val (.int i2), .val (.int i3), .val (.int i4), .val (.int i5), .val (.ref sq), .val (.int (1 : Int32)), .val (.ref sk), .val (.ref wt), .val (.int tt), .val (.ref rl), .val (.int rr), .val (.int (1 : Int32)), .val (.ref al), .val (.ref ap)]) (S' := [(.int (1 : Int32)), (.int (1 : Int32))]) rfl ?_
            refine Run.icmp hK (cd := .ne) (o := 7) (by decide +kernel) (by decide) (pc' := 258) rfl (fun q => by replace q := (h_ne _ _).1 q; exact absurd rfl q) (fun _ => ?_)
            refine Run.pure hK (seg := [(254, .iconst 1, 1), (255, .goto 4, 3)]) (by decide +kernel) (pc' := 259) (L' := #[.val (.int i0), .val (.int i1), .val (.int i2), .val (.int i3), .val (.int i4), .val (.int i5), .val (.ref sq), .val (.int (1 : Int32)), .val (.ref sk), .val (.ref wt), .val (.int tt), .val (.ref rl), .val (.int rr), .val (.int (1 : Int32)), .val (.ref al), .val (.ref ap)]) (S' := [(.int (1 : Int32))]) rfl ?_
            exact Run.retw hK (i := .ireturn) rfl (Or.inl ⟨rfl, Or.inr (Or.inl rfl), _, rfl⟩) (by decide +kernel) (by decide) (by decide) rfl
          · refine Run.iface hK (index := 84) (count := 1) (y := (⟨"java/util/List", "size", "()I"⟩ : MethodName)) (z := (⟨"java/util/ImmutableCollections$ListN", "size", "()I"⟩ : MethodName)) (C := "java/util/ImmutableCollections$ListN") (Wt := 0) (kc := 0) (ks := 0) (fun _ _ z => mv z (hw _ (List.mem_of_getElem? (i := 269) rfl))) (fun _ _ z => mv z (hw _ (List.mem_of_getElem? (i := 270) rfl))) (fun _ _ z => mv z (hw _ (List.mem_of_getElem? (i := 271) rfl))) (fun _ _ z => mv z (hw _ (List.mem_of_getElem? (i := 312) rfl))) (fun _ _ z => mv z (hw _ (List.mem_of_getElem? (i := 313) rfl))) (fun _ _ z => mv z (hw _ (List.mem_of_getElem? (i := 314) rfl))) (fun _ _ z => mv z (hw _ (List.mem_of_getElem? (i := 315) rfl))) (fun _ _ z => mv z (hw _ (List.mem_of_getElem? (i := 71) rfl))) (by decide) (a := pp) f1 (W' := []) (fun _ q => nomatch q) (Ctr.cal (len := 5) (c_sn G pp b hj f2 f3) (hw _ (List.mem_of_getElem? (i := 316) rfl)) (hw _ (List.mem_of_getElem? (i := 72) rfl)) (by decide) (by decide)) rfl (argsL := []) (rest := []) (lenOf pd_i rfl) rfl (Nat.le_of_ble_eq_true rfl) (by decide +kernel) (by decide) (by decide) (fun vs hs qs ns => ?_)
            obtain ⟨rfl, rfl⟩ := qs
            refine Run.pure hK (seg := [(249, .iload 13, 2)]) (by decide +kernel) (pc' := 251) (L' := #[.val (.int i0), .val (.int i1), .val (.int i2), .val (.int i3), .val (.int i4), .val (.int i5), .val (.ref sq), .val (.int (1 : Int32)), .val (.ref sk), .val (.ref wt), .val (.int tt), .val (.ref rl), .val (.int rr), .val (.int (1 : Int32)), .val (.ref al), .val (.ref ap)]) (S' := [(.int (1 : Int32)), (.int (1 : Int32))]) rfl ?_
            refine Run.icmp hK (cd := .ne) (o := 7) (by decide +kernel) (by decide) (pc' := 258) rfl (fun q => by replace q := (h_ne _ _).1 q; exact absurd rfl q) (fun _ => ?_)
            refine Run.pure hK (seg := [(254, .iconst 1, 1), (255, .goto 4, 3)]) (by decide +kernel) (pc' := 259) (L' := #[.val (.int i0), .val (.int i1), .val (.int i2), .val (.int i3), .val (.int i4), .val (.int i5), .val (.ref sq), .val (.int (1 : Int32)), .val (.ref sk), .val (.ref wt), .val (.int tt), .val (.ref rl), .val (.int rr), .val (.int (1 : Int32)), .val (.ref al), .val (.ref ap)]) (S' := [(.int (1 : Int32))]) rfl ?_
            exact Run.retw hK (i := .ireturn) rfl (Or.inl ⟨rfl, Or.inr (Or.inl rfl), _, rfl⟩) (by decide +kernel) (by decide) (by decide) rfl
        · refine Run.new hK (index := 69) (C := "java/util/ArrayList") (n := 3) (hw _ (List.mem_of_getElem? (i := 91) rfl)) (hw _ (List.mem_of_getElem? (i := 92) rfl)) (hw _ (List.mem_of_getElem? (i := 93) rfl)) (by decide +kernel) (by decide) (by decide) (fun hl El Xl Dl => ?_)
          obtain ⟨al, zl⟩ : ∃ z, z = hk.size := ⟨_, rfl⟩
          rw [← zl]
          rw [← zl] at Xl Dl
          refine Run.pure hK (seg := [(163, .dup, 1)]) (by decide +kernel) (pc' := 164) (L' := #[.val (.int i0), .val (.int i1), .val (.int i2), .val (.int i3), .val (.int i4), .val (.int i5), .val (.ref sq), .val (.int (1 : Int32)), .val (.ref sk), .val (.ref wt), .val (.int tt), .val (.ref rl), .val (.int rr), .val (.int (2 : Int32)), .unset, .unset]) (S' := [(.ref al), (.ref al)]) rfl ?_
          refine Run.special hK (index := 71) (y := (⟨"java/util/ArrayList", "<init>", "()V"⟩ : MethodName)) (Wt := 1) (kc := 0) (ks := 0) rfl (hw _ (List.mem_of_getElem? (i := 94) rfl)) (hw _ (List.mem_of_getElem? (i := 95) rfl)) (hw _ (List.mem_of_getElem? (i := 96) rfl)) (by decide) (a := al) (W' := []) (fun _ q => nomatch q) (Ctr.cal (c_ali G al LX hl (by rw [zl]; exact hO.1) Xl ⟨Dl (Or.inl (hw _ (List.mem_of_getElem? (i := 114) rfl))) (ty := (.array (.object "java/lang/Object"))) (by decide), Dl (Or.inl (hw _ (List.mem_of_getElem? (i := 144) rfl))) (ty := .int) (by decide), Dl (Or.inl (hw _ (List.mem_of_getElem? (i := 111) rfl))) (ty := .int) (by decide)⟩) (hw _ (List.mem_of_getElem? (i := 96) rfl)) (hw _ (List.mem_of_getElem? (i := 93) rfl)) (by decide) (by decide)) rfl (argsL := []) (rest := [(.ref al)]) (lenOf pd_v rfl) rfl (Nat.le_of_ble_eq_true rfl) (by decide +kernel) (by decide) (by decide) (fun va ha qa na => ?_)
          obtain ⟨rfl, Xl', Fl, Ka⟩ := qa
          have hl0 : Z.heap.size ≤ al := by rw [zl]; exact hO.1
          replace Xq := (Xq.ext El).keep Ka
          replace Xk := (Xk.ext El).keep Ka
          refine Run.pure hK (seg := [(167, .astore 14, 2), (169, .aload 14, 2), (171, .iload 5, 2)]) (by decide +kernel) (pc' := 173) (L' := #[.val (.int i0), .val (.int i1), .val (.int i2), .val (.int i3), .val (.int i4), .val (.int i5), .val (.ref sq), .val (.int (1 : Int32)), .val (.ref sk), .val (.ref wt), .val (.int tt), .val (.ref rl), .val (.int rr), .val (.int (2 : Int32)), .val (.ref al), .unset]) (S' := [(.int i5), (.ref al)]) rfl ?_
          refine Run.static hK (index := 72) (y := (⟨"java/lang/Integer", "valueOf", "(I)Ljava/lang/Integer;"⟩ : MethodName)) (Wt := 1) (kc := 1) (ks := 1) (hw _ (List.mem_of_getElem? (i := 115) rfl)) (hw _ (List.mem_of_getElem? (i := 116) rfl)) (hw _ (List.mem_of_getElem? (i := 117) rfl)) (hw _ (List.mem_of_getElem? (i := 118) rfl)) (by decide) (W' := []) (fun _ q => nomatch q) (Ctr.cal (c_ival G i5 ha IA) (hw _ (List.mem_of_getElem? (i := 118) rfl)) (hw _ (List.mem_of_getElem? (i := 117) rfl)) (by decide) (by decide)) rfl (argsL := [(.int i5)]) (rest := [(.ref al)]) (lenOf pd_ival rfl) rfl (Nat.le_of_ble_eq_true rfl) (by decide +kernel) (by decide) (by decide) (fun vv1 hv1 qv1 nv1 => ?_)
          obtain ⟨b1, rfl, XI1, Y1⟩ := qv1
          replace Xq := Xq.ext Y1
          replace Xk := Xk.ext Y1
          refine Run.virtual hK (index := 77) (y := (⟨"java/util/ArrayList", "add", "(Ljava/lang/Object;)Z"⟩ : MethodName)) (z := (⟨"java/util/ArrayList", "add", "(Ljava/lang/Object;)Z"⟩ : MethodName)) (C := "java/util/ArrayList") (Wt := 0) (kc := 1) (ks := 10) (hw _ (List.mem_of_getElem? (i := 136) rfl)) (hw _ (List.mem_of_getElem? (i := 137) rfl)) (nfS (hw _ (List.mem_of_getElem? (i := 139) rfl))) (hw _ (List.mem_of_getElem? (i := 139) rfl)) (hw _ (List.mem_of_getElem? (i := 138) rfl)) (by decide) (a := al) (Xl'.ext Y1) (W' := []) (fun _ q => nomatch q) (Ctr.cal (c_add0 G al b1 LX hv1 hl0 (Xl'.ext Y1) ⟨Fl.1.ext Y1, Fl.2.1.ext Y1, Fl.2.2.ext Y1⟩ XI1) (hw _ (List.mem_of_getElem? (i := 140) rfl)) (hw _ (List.mem_of_getElem? (i := 93) rfl)) (by decide) (by decide)) rfl (argsL := [(.ref b1)]) (rest := []) (lenOf pd_add rfl) rfl (Nat.le_of_ble_eq_true rfl) (by decide +kernel) (by decide) (by decide) (fun vd1 hd1 qd1 nd1 => ?_)
          obtain ⟨rfl, ar, kr, Al, gr, K1⟩ := qd1
          replace Xq := Xq.keep K1
          replace Xk := Xk.keep K1
          replace XI1 := XI1.keep K1
          refine Run.pure hK (seg := [(179, .pop, 1), (180, .iload 13, 2), (182, .iconst 2, 1)]) (by decide +kernel) (pc' := 183) (L' := #[.val (.int i0), .val (.int i1), .val (.int i2), .val (.int i3), .val (.int i4), .val (.int i5), .val (.ref sq), .val (.int (1 : Int32)), .val (.ref sk), .val (.ref wt), .val (.int tt), .val (.ref rl), .val (.int rr), .val (.int (2 : Int32)), .val (.ref al), .unset]) (S' := [(.int (2 : Int32)), (.int (2 : Int32))]) rfl ?_
          refine Run.icmp hK (cd := .lt) (o := 13) (by decide +kernel) (by decide) (pc' := 196) rfl (fun q => by replace q := (h_lt _ _).1 q; exact absurd q (by decide)) (fun _ => ?_)
          refine Run.pure hK (seg := [(186, .aload 14, 2), (188, .iload_n 0, 1)]) (by decide +kernel) (pc' := 189) (L' := #[.val (.int i0), .val (.int i1), .val (.int i2), .val (.int i3), .val (.int i4), .val (.int i5), .val (.ref sq), .val (.int (1 : Int32)), .val (.ref sk), .val (.ref wt), .val (.int tt), .val (.ref rl), .val (.int rr), .val (.int (2 : Int32)), .val (.ref al), .unset]) (S' := [(.int i0), (.ref al)]) rfl ?_
          refine Run.static hK (index := 72) (y := (⟨"java/lang/Integer", "valueOf", "(I)Ljava/lang/Integer;"⟩ : MethodName)) (Wt := 1) (kc := 1) (ks := 1) (hw _ (List.mem_of_getElem? (i := 115) rfl)) (hw _ (List.mem_of_getElem? (i := 116) rfl)) (hw _ (List.mem_of_getElem? (i := 117) rfl)) (hw _ (List.mem_of_getElem? (i := 118) rfl)) (by decide) (W' := []) (fun _ q => nomatch q) (Ctr.cal (c_ival G i0 hd1 IA) (hw _ (List.mem_of_getElem? (i := 118) rfl)) (hw _ (List.mem_of_getElem? (i := 117) rfl)) (by decide) (by decide)) rfl (argsL := [(.int i0)]) (rest := [(.ref al)]) (lenOf pd_ival rfl) rfl (Nat.le_of_ble_eq_true rfl) (by decide +kernel) (by decide) (by decide) (fun vv2 hv2 qv2 nv2 => ?_)
          obtain ⟨b2, rfl, XI2, Y2⟩ := qv2
          replace Xq := Xq.ext Y2
          replace Xk := Xk.ext Y2
          replace XI1 := XI1.ext Y2
          replace Al := Al.ext Y2
          refine Run.virtual hK (index := 77) (y := (⟨"java/util/ArrayList", "add", "(Ljava/lang/Object;)Z"⟩ : MethodName)) (z := (⟨"java/util/ArrayList", "add", "(Ljava/lang/Object;)Z"⟩ : MethodName)) (C := "java/util/ArrayList") (Wt := 0) (kc := 0) (ks := 0) (hw _ (List.mem_of_getElem? (i := 136) rfl)) (hw _ (List.mem_of_getElem? (i := 137) rfl)) (nfS (hw _ (List.mem_of_getElem? (i := 139) rfl))) (hw _ (List.mem_of_getElem? (i := 139) rfl)) (hw _ (List.mem_of_getElem? (i := 138) rfl)) (by decide) (a := al) Al.1 (W' := []) (fun _ q => nomatch q) (Ctr.cal (c_addn G al b2 ar hv2 Al (by simp) XI2) (hw _ (List.mem_of_getElem? (i := 140) rfl)) (hw _ (List.mem_of_getElem? (i := 93) rfl)) (by decide) (by decide)) rfl (argsL := [(.ref b2)]) (rest := []) (lenOf pd_add rfl) rfl (Nat.le_of_ble_eq_true rfl) (by decide +kernel) (by decide) (by decide) (fun vd2 hd2 qd2 nd2 => ?_)
          obtain ⟨rfl, Al, K2⟩ := qd2
          replace Al : ALo Z hd2 al ar kr [b1, b2] := Al
          replace Xq := Xq.keep K2
          replace Xk := Xk.keep K2
          replace XI1 := XI1.keep K2
          replace XI2 := XI2.keep K2
          refine Run.pure hK (seg := [(195, .pop, 1), (196, .iload 13, 2), (198, .iconst 3, 1)]) (by decide +kernel) (pc' := 199) (L' := #[.val (.int i0), .val (.int i1), .val (.int i2), .val (.int i3), .val (.int i4), .val (.int i5), .val (.ref sq), .val (.int (1 : Int32)), .val (.ref sk), .val (.ref wt), .val (.int tt), .val (.ref rl), .val (.int rr), .val (.int (2 : Int32)), .val (.ref al), .unset]) (S' := [(.int (3 : Int32)), (.int (2 : Int32))]) rfl ?_
          refine Run.icmp hK (cd := .lt) (o := 13) (by decide +kernel) (by decide) (pc' := 212) rfl (fun _ => ?_) (fun q => by replace q := (h_lt _ _).2 q; exact absurd q (by decide))
          refine Run.old (fun hO3 => ?_)
          refine Run.new hK (index := 23) (C := "com/example/resolve_place/resolveplace/parser/ParsedQuery") (n := 5) (hw _ (List.mem_of_getElem? (i := 167) rfl)) (hw _ (List.mem_of_getElem? (i := 31) rfl)) (hw _ (List.mem_of_getElem? (i := 28) rfl)) (by decide +kernel) (by decide) (by decide) (fun hp Ep Xp Dp => ?_)
          obtain ⟨ap, zp⟩ : ∃ z, z = hd2.size := ⟨_, rfl⟩
          rw [← zp]
          rw [← zp] at Xp Dp
          refine Run.pure hK (seg := [(215, .dup, 1), (216, .aload 6, 2), (218, .aload 8, 2), (220, .aload 9, 2), (222, .aload 11, 2), (224, .aload 14, 2)]) (by decide +kernel) (pc' := 226) (L' := #[.val (.int i0), .val (.int i1), .val (.int i2), .val (.int i3), .val (.int i4), .val (.int i5), .val (.ref sq), .val (.int (1 : Int32)), .val (.ref sk), .val (.ref wt), .val (.int tt), .val (.ref rl), .val (.int rr), .val (.int (2 : Int32)), .val (.ref al), .unset]) (S' := [(.ref al), (.ref rl), (.ref wt), (.ref sk), (.ref sq), (.ref ap), (.ref ap)]) rfl ?_
          replace Al := Al.ext Ep
          have hP : Z.heap.size ≤ ap := by rw [zp]; exact hO3.1
          have hO4 := Ext.tr hO3 Ep
          refine Run.special hK (index := 81) (y := (⟨"com/example/resolve_place/resolveplace/parser/ParsedQuery", "<init>", "(Ljava/lang/String;Ljava/lang/String;Lcom/example/resolve_place/resolveplace/parser/WhatType;Lcom/example/resolve_place/resolveplace/parser/GeoRelation;Ljava/util/List;)V"⟩ : MethodName)) (Wt := 1) (kc := 11) (ks := 123) rfl (hw _ (List.mem_of_getElem? (i := 168) rfl)) (hw _ (List.mem_of_getElem? (i := 169) rfl)) (hw _ (List.mem_of_getElem? (i := 170) rfl)) (by decide) (a := ap) (W' := []) (fun _ q => nomatch q) (Ctr.cal (c_pq52 G ap sq sk wt rl al ar b1 b2 LX hp hP Xp (Dp (Or.inr (hw _ (List.mem_of_getElem? (i := 43) rfl))) (ty := (.object "java/lang/String")) (by decide)) (Dp (Or.inr (hw _ (List.mem_of_getElem? (i := 46) rfl))) (ty := (.object "java/lang/String")) (by decide)) (Dp (Or.inr (hw _ (List.mem_of_getElem? (i := 48) rfl))) (ty := (.object "com/example/resolve_place/resolveplace/parser/WhatType")) (by decide)) (Dp (Or.inr (hw _ (List.mem_of_getElem? (i := 50) rfl))) (ty := (.object "com/example/resolve_place/resolveplace/parser/GeoRelation")) (by decide)) (Dp (Or.inr (hw _ (List.mem_of_getElem? (i := 58) rfl))) (ty := (.object "java/util/List")) (by decide)) Al (XI1.ext Ep) (XI2.ext Ep) (Xq.ext Ep) (Xk.ext Ep) (Xt.ext hO4) (Xr.ext hO4)) (hw _ (List.mem_of_getElem? (i := 170) rfl)) (hw _ (List.mem_of_getElem? (i := 28) rfl)) (by decide) (by decide)) rfl (argsL := [(.ref sq), (.ref sk), (.ref wt), (.ref rl), (.ref al)]) (rest := [(.ref ap)]) (lenOf pd_pq5 rfl) rfl (Nat.le_of_ble_eq_true rfl) (by decide +kernel) (by decide) (by decide) (fun vp5 hp5 qp5 np5 => ?_)
          obtain ⟨rfl, pp, Pp, Lp⟩ := qp5
          refine Run.pure hK (seg := [(229, .astore 15, 2), (231, .aload 15, 2)]) (by decide +kernel) (pc' := 233) (L' := #[.val (.int i0), .val (.int i1), .val (.int i2), .val (.int i3), .val (.int i4), .val (.int i5), .val (.ref sq), .val (.int (1 : Int32)), .val (.ref sk), .val (.ref wt), .val (.int tt), .val (.ref rl), .val (.int rr), .val (.int (2 : Int32)), .val (.ref al), .val (.ref ap)]) (S' := [(.ref ap)]) rfl ?_
          refine Run.virtual hK (index := 28) (y := (⟨"com/example/resolve_place/resolveplace/parser/ParsedQuery", "isLocal", "()Z"⟩ : MethodName)) (z := (⟨"com/example/resolve_place/resolveplace/parser/ParsedQuery", "isLocal", "()Z"⟩ : MethodName)) (C := "com/example/resolve_place/resolveplace/parser/ParsedQuery") (Wt := 0) (kc := 0) (ks := 0) (hw _ (List.mem_of_getElem? (i := 59) rfl)) (hw _ (List.mem_of_getElem? (i := 60) rfl)) (nfS (hw _ (List.mem_of_getElem? (i := 62) rfl))) (hw _ (List.mem_of_getElem? (i := 62) rfl)) (hw _ (List.mem_of_getElem? (i := 61) rfl)) (by decide) (a := ap) Pp.1 (W' := []) (fun _ q => nomatch q) (Ctr.cal (c_isl G ap pp EM hp5 Pp Lp) (hw _ (List.mem_of_getElem? (i := 63) rfl)) (hw _ (List.mem_of_getElem? (i := 28) rfl)) (by decide) (by decide)) rfl (argsL := []) (rest := []) (lenOf pd_z rfl) rfl (Nat.le_of_ble_eq_true rfl) (by decide +kernel) (by decide) (by decide) (fun vi hi qi ni => ?_)
          obtain ⟨rfl, rfl⟩ := qi
          rw [if_neg (by decide)]
          refine Run.ifz hK (cd := .eq) (o := 22) (by decide +kernel) (by decide) (pc' := 258) rfl (fun q => by replace q := (h_eq _ _).1 q; exact absurd q (by decide)) (fun _ => ?_)
          refine Run.pure hK (seg := [(239, .aload 15, 2)]) (by decide +kernel) (pc' := 241) (L' := #[.val (.int i0), .val (.int i1), .val (.int i2), .val (.int i3), .val (.int i4), .val (.int i5), .val (.ref sq), .val (.int (1 : Int32)), .val (.ref sk), .val (.ref wt), .val (.int tt), .val (.ref rl), .val (.int rr), .val (.int (2 : Int32)), .val (.ref al), .val (.ref ap)]) (S' := [(.ref ap)]) rfl ?_
          refine Run.virtual hK (index := 32) (y := (⟨"com/example/resolve_place/resolveplace/parser/ParsedQuery", "places", "()Ljava/util/List;"⟩ : MethodName)) (z := (⟨"com/example/resolve_place/resolveplace/parser/ParsedQuery", "places", "()Ljava/util/List;"⟩ : MethodName)) (C := "com/example/resolve_place/resolveplace/parser/ParsedQuery") (Wt := 0) (kc := 0) (ks := 0) (hw _ (List.mem_of_getElem? (i := 76) rfl)) (hw _ (List.mem_of_getElem? (i := 77) rfl)) (nfS (hw _ (List.mem_of_getElem? (i := 79) rfl))) (hw _ (List.mem_of_getElem? (i := 79) rfl)) (hw _ (List.mem_of_getElem? (i := 78) rfl)) (by decide) (a := ap) Pp.1 (W' := []) (fun _ q => nomatch q) (Ctr.cal (c_pl G ap pp hi Pp) (hw _ (List.mem_of_getElem? (i := 80) rfl)) (hw _ (List.mem_of_getElem? (i := 28) rfl)) (by decide) (by decide)) rfl (argsL := []) (rest := []) (lenOf pd_lo rfl) rfl (Nat.le_of_ble_eq_true rfl) (by decide +kernel) (by decide) (by decide) (fun vj hj qj nj => ?_)
          obtain ⟨rfl, rfl⟩ := qj
          rcases Lp with ⟨f1, e, f2, f3⟩ | ⟨f1, b, k, vs, f2, f3⟩
          · refine Run.iface hK (index := 84) (count := 1) (y := (⟨"java/util/List", "size", "()I"⟩ : MethodName)) (z := (⟨"java/util/ImmutableCollections$List12", "size", "()I"⟩ : MethodName)) (C := "java/util/ImmutableCollections$List12") (Wt := 0) (kc := 0) (ks := 0) (fun _ _ z => mv z (hw _ (List.mem_of_getElem? (i := 269) rfl))) (fun _ _ z => mv z (hw _ (List.mem_of_getElem? (i := 270) rfl))) (fun _ _ z => mv z (hw _ (List.mem_of_getElem? (i := 271) rfl))) (fun _ _ z => mv z (hw _ (List.mem_of_getElem? (i := 272) rfl))) (fun _ _ z => mv z (hw _ (List.mem_of_getElem? (i := 273) rfl))) (fun _ _ z => mv z (hw _ (List.mem_of_getElem? (i := 274) rfl))) (fun _ _ z => mv z (hw _ (List.mem_of_getElem? (i := 275) rfl))) (fun _ _ z => mv z (hw _ (List.mem_of_getElem? (i := 267) rfl))) (by decide) (a := pp) f1 (W' := []) (fun _ q => nomatch q) (Ctr.cal (len := 5) (c_s12 G pp e LX hj f2) (hw _ (List.mem_of_getElem? (i := 276) rfl)) (hw _ (List.mem_of_getElem? (i := 236) rfl)) (by decide) (by decide)) rfl (argsL := []) (rest := []) (lenOf pd_i rfl) rfl (Nat.le_of_ble_eq_true rfl) (by decide +kernel) (by decide) (by decide) (fun vs hs qs ns => ?_)
            obtain ⟨rfl, rfl⟩ := qs
            rw [← f3]
            refine Run.pure hK (seg := [(249, .iload 13, 2)]) (by decide +kernel) (pc' := 251) (L' := #[.val (.int i0), .val (.int i1), .val (.int i2), .val (.int i3), .val (.int i4), .val (.int i5), .val (.ref sq), .val (.int (1 : Int32)), .val (.ref sk), .val (.ref wt), .val (.int tt), .val (.ref rl), .val (.int rr), .val (.int (2 : Int32)), .val (.ref al), .val (.ref ap)]) (S' := [(.int (2 : Int32)), (.int (2 : Int32))]) rfl ?_
            refine Run.icmp hK (cd := .ne) (o := 7) (by decide +kernel) (by decide) (pc' := 258) rfl (fun q => by replace q := (h_ne _ _).1 q; exact absurd rfl q) (fun _ => ?_)
            refine Run.pure hK (seg := [(254, .iconst 1, 1), (255, .goto 4, 3)]) (by decide +kernel) (pc' := 259) (L' := #[.val (.int i0), .val (.int i1), .val (.int i2), .val (.int i3), .val (.int i4), .val (.int i5), .val (.ref sq), .val (.int (1 : Int32)), .val (.ref sk), .val (.ref wt), .val (.int tt), .val (.ref rl), .val (.int rr), .val (.int (2 : Int32)), .val (.ref al), .val (.ref ap)]) (S' := [(.int (1 : Int32))]) rfl ?_
            exact Run.retw hK (i := .ireturn) rfl (Or.inl ⟨rfl, Or.inr (Or.inl rfl), _, rfl⟩) (by decide +kernel) (by decide) (by decide) rfl
          · refine Run.iface hK (index := 84) (count := 1) (y := (⟨"java/util/List", "size", "()I"⟩ : MethodName)) (z := (⟨"java/util/ImmutableCollections$ListN", "size", "()I"⟩ : MethodName)) (C := "java/util/ImmutableCollections$ListN") (Wt := 0) (kc := 0) (ks := 0) (fun _ _ z => mv z (hw _ (List.mem_of_getElem? (i := 269) rfl))) (fun _ _ z => mv z (hw _ (List.mem_of_getElem? (i := 270) rfl))) (fun _ _ z => mv z (hw _ (List.mem_of_getElem? (i := 271) rfl))) (fun _ _ z => mv z (hw _ (List.mem_of_getElem? (i := 312) rfl))) (fun _ _ z => mv z (hw _ (List.mem_of_getElem? (i := 313) rfl))) (fun _ _ z => mv z (hw _ (List.mem_of_getElem? (i := 314) rfl))) (fun _ _ z => mv z (hw _ (List.mem_of_getElem? (i := 315) rfl))) (fun _ _ z => mv z (hw _ (List.mem_of_getElem? (i := 71) rfl))) (by decide) (a := pp) f1 (W' := []) (fun _ q => nomatch q) (Ctr.cal (len := 5) (c_sn G pp b hj f2 f3) (hw _ (List.mem_of_getElem? (i := 316) rfl)) (hw _ (List.mem_of_getElem? (i := 72) rfl)) (by decide) (by decide)) rfl (argsL := []) (rest := []) (lenOf pd_i rfl) rfl (Nat.le_of_ble_eq_true rfl) (by decide +kernel) (by decide) (by decide) (fun vs hs qs ns => ?_)
            obtain ⟨rfl, rfl⟩ := qs
            refine Run.pure hK (seg := [(249, .iload 13, 2)]) (by decide +kernel) (pc' := 251) (L' := #[.val (.int i0), .val (.int i1), .val (.int i2), .val (.int i3), .val (.int i4), .val (.int i5), .val (.ref sq), .val (.int (1 : Int32)), .val (.ref sk), .val (.ref wt), .val (.int tt), .val (.ref rl), .val (.int rr), .val (.int (2 : Int32)), .val (.ref al), .val (.ref ap)]) (S' := [(.int (2 : Int32)), (.int (2 : Int32))]) rfl ?_
            refine Run.icmp hK (cd := .ne) (o := 7) (by decide +kernel) (by decide) (pc' := 258) rfl (fun q => by replace q := (h_ne _ _).1 q; exact absurd rfl q) (fun _ => ?_)
            refine Run.pure hK (seg := [(254, .iconst 1, 1), (255, .goto 4, 3)]) (by decide +kernel) (pc' := 259) (L' := #[.val (.int i0), .val (.int i1), .val (.int i2), .val (.int i3), .val (.int i4), .val (.int i5), .val (.ref sq), .val (.int (1 : Int32)), .val (.ref sk), .val (.ref wt), .val (.int tt), .val (.ref rl), .val (.int rr), .val (.int (2 : Int32)), .val (.ref al), .val (.ref ap)]) (S' := [(.int (1 : Int32))]) rfl ?_
            exact Run.retw hK (i := .ireturn) rfl (Or.inl ⟨rfl, Or.inr (Or.inl rfl), _, rfl⟩) (by decide +kernel) (by decide) (by decide) rfl
        · refine Run.new hK (index := 69) (C := "java/util/ArrayList") (n := 3) (hw _ (List.mem_of_getElem? (i := 91) rfl)) (hw _ (List.mem_of_getElem? (i := 92) rfl)) (hw _ (List.mem_of_getElem? (i := 93) rfl)) (by decide +kernel) (by decide) (by decide) (fun hl El Xl Dl => ?_)
          obtain ⟨al, zl⟩ : ∃ z, z = hk.size := ⟨_, rfl⟩
          rw [← zl]
          rw [← zl] at Xl Dl
          refine Run.pure hK (seg := [(163, .dup, 1)]) (by decide +kernel) (pc' := 164) (L' := #[.val (.int i0), .val (.int i1), .val (.int i2), .val (.int i3), .val (.int i4), .val (.int i5), .val (.ref sq), .val (.int (1 : Int32)), .val (.ref sk), .val (.ref wt), .val (.int tt), .val (.ref rl), .val (.int rr), .val (.int (3 : Int32)), .unset, .unset]) (S' := [(.ref al), (.ref al)]) rfl ?_
          refine Run.special hK (index := 71) (y := (⟨"java/util/ArrayList", "<init>", "()V"⟩ : MethodName)) (Wt := 1) (kc := 0) (ks := 0) rfl (hw _ (List.mem_of_getElem? (i := 94) rfl)) (hw _ (List.mem_of_getElem? (i := 95) rfl)) (hw _ (List.mem_of_getElem? (i := 96) rfl)) (by decide) (a := al) (W' := []) (fun _ q => nomatch q) (Ctr.cal (c_ali G al LX hl (by rw [zl]; exact hO.1) Xl ⟨Dl (Or.inl (hw _ (List.mem_of_getElem? (i := 114) rfl))) (ty := (.array (.object "java/lang/Object"))) (by decide), Dl (Or.inl (hw _ (List.mem_of_getElem? (i := 144) rfl))) (ty := .int) (by decide), Dl (Or.inl (hw _ (List.mem_of_getElem? (i := 111) rfl))) (ty := .int) (by decide)⟩) (hw _ (List.mem_of_getElem? (i := 96) rfl)) (hw _ (List.mem_of_getElem? (i := 93) rfl)) (by decide) (by decide)) rfl (argsL := []) (rest := [(.ref al)]) (lenOf pd_v rfl) rfl (Nat.le_of_ble_eq_true rfl) (by decide +kernel) (by decide) (by decide) (fun va ha qa na => ?_)
          obtain ⟨rfl, Xl', Fl, Ka⟩ := qa
          have hl0 : Z.heap.size ≤ al := by rw [zl]; exact hO.1
          replace Xq := (Xq.ext El).keep Ka
          replace Xk := (Xk.ext El).keep Ka
          refine Run.pure hK (seg := [(167, .astore 14, 2), (169, .aload 14, 2), (171, .iload 5, 2)]) (by decide +kernel) (pc' := 173) (L' := #[.val (.int i0), .val (.int i1), .val (.int i2), .val (.int i3), .val (.int i4), .val (.int i5), .val (.ref sq), .val (.int (1 : Int32)), .val (.ref sk), .val (.ref wt), .val (.int tt), .val (.ref rl), .val (.int rr), .val (.int (3 : Int32)), .val (.ref al), .unset]) (S' := [(.int i5), (.ref al)]) rfl ?_
          refine Run.static hK (index := 72) (y := (⟨"java/lang/Integer", "valueOf", "(I)Ljava/lang/Integer;"⟩ : MethodName)) (Wt := 1) (kc := 1) (ks := 1) (hw _ (List.mem_of_getElem? (i := 115) rfl)) (hw _ (List.mem_of_getElem? (i := 116) rfl)) (hw _ (List.mem_of_getElem? (i := 117) rfl)) (hw _ (List.mem_of_getElem? (i := 118) rfl)) (by decide) (W' := []) (fun _ q => nomatch q) (Ctr.cal (c_ival G i5 ha IA) (hw _ (List.mem_of_getElem? (i := 118) rfl)) (hw _ (List.mem_of_getElem? (i := 117) rfl)) (by decide) (by decide)) rfl (argsL := [(.int i5)]) (rest := [(.ref al)]) (lenOf pd_ival rfl) rfl (Nat.le_of_ble_eq_true rfl) (by decide +kernel) (by decide) (by decide) (fun vv1 hv1 qv1 nv1 => ?_)
          obtain ⟨b1, rfl, XI1, Y1⟩ := qv1
          replace Xq := Xq.ext Y1
          replace Xk := Xk.ext Y1
          refine Run.virtual hK (index := 77) (y := (⟨"java/util/ArrayList", "add", "(Ljava/lang/Object;)Z"⟩ : MethodName)) (z := (⟨"java/util/ArrayList", "add", "(Ljava/lang/Object;)Z"⟩ : MethodName)) (C := "java/util/ArrayList") (Wt := 0) (kc := 1) (ks := 10) (hw _ (List.mem_of_getElem? (i := 136) rfl)) (hw _ (List.mem_of_getElem? (i := 137) rfl)) (nfS (hw _ (List.mem_of_getElem? (i := 139) rfl))) (hw _ (List.mem_of_getElem? (i := 139) rfl)) (hw _ (List.mem_of_getElem? (i := 138) rfl)) (by decide) (a := al) (Xl'.ext Y1) (W' := []) (fun _ q => nomatch q) (Ctr.cal (c_add0 G al b1 LX hv1 hl0 (Xl'.ext Y1) ⟨Fl.1.ext Y1, Fl.2.1.ext Y1, Fl.2.2.ext Y1⟩ XI1) (hw _ (List.mem_of_getElem? (i := 140) rfl)) (hw _ (List.mem_of_getElem? (i := 93) rfl)) (by decide) (by decide)) rfl (argsL := [(.ref b1)]) (rest := []) (lenOf pd_add rfl) rfl (Nat.le_of_ble_eq_true rfl) (by decide +kernel) (by decide) (by decide) (fun vd1 hd1 qd1 nd1 => ?_)
          obtain ⟨rfl, ar, kr, Al, gr, K1⟩ := qd1
          replace Xq := Xq.keep K1
          replace Xk := Xk.keep K1
          replace XI1 := XI1.keep K1
          refine Run.pure hK (seg := [(179, .pop, 1), (180, .iload 13, 2), (182, .iconst 2, 1)]) (by decide +kernel) (pc' := 183) (L' := #[.val (.int i0), .val (.int i1), .val (.int i2), .val (.int i3), .val (.int i4), .val (.int i5), .val (.ref sq), .val (.int (1 : Int32)), .val (.ref sk), .val (.ref wt), .val (.int tt), .val (.ref rl), .val (.int rr), .val (.int (3 : Int32)), .val (.ref al), .unset]) (S' := [(.int (2 : Int32)), (.int (3 : Int32))]) rfl ?_
          refine Run.icmp hK (cd := .lt) (o := 13) (by decide +kernel) (by decide) (pc' := 196) rfl (fun q => by replace q := (h_lt _ _).1 q; exact absurd q (by decide)) (fun _ => ?_)
          refine Run.pure hK (seg := [(186, .aload 14, 2), (188, .iload_n 0, 1)]) (by decide +kernel) (pc' := 189) (L' := #[.val (.int i0), .val (.int i1), .val (.int i2), .val (.int i3), .val (.int i4), .val (.int i5), .val (.ref sq), .val (.int (1 : Int32)), .val (.ref sk), .val (.ref wt), .val (.int tt), .val (.ref rl), .val (.int rr), .val (.int (3 : Int32)), .val (.ref al), .unset]) (S' := [(.int i0), (.ref al)]) rfl ?_
          refine Run.static hK (index := 72) (y := (⟨"java/lang/Integer", "valueOf", "(I)Ljava/lang/Integer;"⟩ : MethodName)) (Wt := 1) (kc := 1) (ks := 1) (hw _ (List.mem_of_getElem? (i := 115) rfl)) (hw _ (List.mem_of_getElem? (i := 116) rfl)) (hw _ (List.mem_of_getElem? (i := 117) rfl)) (hw _ (List.mem_of_getElem? (i := 118) rfl)) (by decide) (W' := []) (fun _ q => nomatch q) (Ctr.cal (c_ival G i0 hd1 IA) (hw _ (List.mem_of_getElem? (i := 118) rfl)) (hw _ (List.mem_of_getElem? (i := 117) rfl)) (by decide) (by decide)) rfl (argsL := [(.int i0)]) (rest := [(.ref al)]) (lenOf pd_ival rfl) rfl (Nat.le_of_ble_eq_true rfl) (by decide +kernel) (by decide) (by decide) (fun vv2 hv2 qv2 nv2 => ?_)
          obtain ⟨b2, rfl, XI2, Y2⟩ := qv2
          replace Xq := Xq.ext Y2
          replace Xk := Xk.ext Y2
          replace XI1 := XI1.ext Y2
          replace Al := Al.ext Y2
          refine Run.virtual hK (index := 77) (y := (⟨"java/util/ArrayList", "add", "(Ljava/lang/Object;)Z"⟩ : MethodName)) (z := (⟨"java/util/ArrayList", "add", "(Ljava/lang/Object;)Z"⟩ : MethodName)) (C := "java/util/ArrayList") (Wt := 0) (kc := 0) (ks := 0) (hw _ (List.mem_of_getElem? (i := 136) rfl)) (hw _ (List.mem_of_getElem? (i := 137) rfl)) (nfS (hw _ (List.mem_of_getElem? (i := 139) rfl))) (hw _ (List.mem_of_getElem? (i := 139) rfl)) (hw _ (List.mem_of_getElem? (i := 138) rfl)) (by decide) (a := al) Al.1 (W' := []) (fun _ q => nomatch q) (Ctr.cal (c_addn G al b2 ar hv2 Al (by simp) XI2) (hw _ (List.mem_of_getElem? (i := 140) rfl)) (hw _ (List.mem_of_getElem? (i := 93) rfl)) (by decide) (by decide)) rfl (argsL := [(.ref b2)]) (rest := []) (lenOf pd_add rfl) rfl (Nat.le_of_ble_eq_true rfl) (by decide +kernel) (by decide) (by decide) (fun vd2 hd2 qd2 nd2 => ?_)
          obtain ⟨rfl, Al, K2⟩ := qd2
          replace Al : ALo Z hd2 al ar kr [b1, b2] := Al
          replace Xq := Xq.keep K2
          replace Xk := Xk.keep K2
          replace XI1 := XI1.keep K2
          replace XI2 := XI2.keep K2
          refine Run.pure hK (seg := [(195, .pop, 1), (196, .iload 13, 2), (198, .iconst 3, 1)]) (by decide +kernel) (pc' := 199) (L' := #[.val (.int i0), .val (.int i1), .val (.int i2), .val (.int i3), .val (.int i4), .val (.int i5), .val (.ref sq), .val (.int (1 : Int32)), .val (.ref sk), .val (.ref wt), .val (.int tt), .val (.ref rl), .val (.int rr), .val (.int (3 : Int32)), .val (.ref al), .unset]) (S' := [(.int (3 : Int32)), (.int (3 : Int32))]) rfl ?_
          refine Run.icmp hK (cd := .lt) (o := 13) (by decide +kernel) (by decide) (pc' := 212) rfl (fun q => by replace q := (h_lt _ _).1 q; exact absurd q (by decide)) (fun _ => ?_)
          refine Run.pure hK (seg := [(202, .aload 14, 2), (204, .iload_n 3, 1)]) (by decide +kernel) (pc' := 205) (L' := #[.val (.int i0), .val (.int i1), .val (.int i2), .val (.int i3), .val (.int i4), .val (.int i5), .val (.ref sq), .val (.int (1 : Int32)), .val (.ref sk), .val (.ref wt), .val (.int tt), .val (.ref rl), .val (.int rr), .val (.int (3 : Int32)), .val (.ref al), .unset]) (S' := [(.int i3), (.ref al)]) rfl ?_
          refine Run.static hK (index := 72) (y := (⟨"java/lang/Integer", "valueOf", "(I)Ljava/lang/Integer;"⟩ : MethodName)) (Wt := 1) (kc := 1) (ks := 1) (hw _ (List.mem_of_getElem? (i := 115) rfl)) (hw _ (List.mem_of_getElem? (i := 116) rfl)) (hw _ (List.mem_of_getElem? (i := 117) rfl)) (hw _ (List.mem_of_getElem? (i := 118) rfl)) (by decide) (W' := []) (fun _ q => nomatch q) (Ctr.cal (c_ival G i3 hd2 IA) (hw _ (List.mem_of_getElem? (i := 118) rfl)) (hw _ (List.mem_of_getElem? (i := 117) rfl)) (by decide) (by decide)) rfl (argsL := [(.int i3)]) (rest := [(.ref al)]) (lenOf pd_ival rfl) rfl (Nat.le_of_ble_eq_true rfl) (by decide +kernel) (by decide) (by decide) (fun vv3 hv3 qv3 nv3 => ?_)
          obtain ⟨b3, rfl, XI3, Y3⟩ := qv3
          replace Xq := Xq.ext Y3
          replace Xk := Xk.ext Y3
          replace XI1 := XI1.ext Y3
          replace XI2 := XI2.ext Y3
          replace Al := Al.ext Y3
          refine Run.virtual hK (index := 77) (y := (⟨"java/util/ArrayList", "add", "(Ljava/lang/Object;)Z"⟩ : MethodName)) (z := (⟨"java/util/ArrayList", "add", "(Ljava/lang/Object;)Z"⟩ : MethodName)) (C := "java/util/ArrayList") (Wt := 0) (kc := 0) (ks := 0) (hw _ (List.mem_of_getElem? (i := 136) rfl)) (hw _ (List.mem_of_getElem? (i := 137) rfl)) (nfS (hw _ (List.mem_of_getElem? (i := 139) rfl))) (hw _ (List.mem_of_getElem? (i := 139) rfl)) (hw _ (List.mem_of_getElem? (i := 138) rfl)) (by decide) (a := al) Al.1 (W' := []) (fun _ q => nomatch q) (Ctr.cal (c_addn G al b3 ar hv3 Al (by simp) XI3) (hw _ (List.mem_of_getElem? (i := 140) rfl)) (hw _ (List.mem_of_getElem? (i := 93) rfl)) (by decide) (by decide)) rfl (argsL := [(.ref b3)]) (rest := []) (lenOf pd_add rfl) rfl (Nat.le_of_ble_eq_true rfl) (by decide +kernel) (by decide) (by decide) (fun vd3 hd3 qd3 nd3 => ?_)
          obtain ⟨rfl, Al, K3⟩ := qd3
          replace Al : ALo Z hd3 al ar kr [b1, b2, b3] := Al
          replace Xq := Xq.keep K3
          replace Xk := Xk.keep K3
          replace XI1 := XI1.keep K3
          replace XI2 := XI2.keep K3
          replace XI3 := XI3.keep K3
          refine Run.pure hK (seg := [(211, .pop, 1)]) (by decide +kernel) (pc' := 212) (L' := #[.val (.int i0), .val (.int i1), .val (.int i2), .val (.int i3), .val (.int i4), .val (.int i5), .val (.ref sq), .val (.int (1 : Int32)), .val (.ref sk), .val (.ref wt), .val (.int tt), .val (.ref rl), .val (.int rr), .val (.int (3 : Int32)), .val (.ref al), .unset]) (S' := []) rfl ?_
          refine Run.old (fun hO3 => ?_)
          refine Run.new hK (index := 23) (C := "com/example/resolve_place/resolveplace/parser/ParsedQuery") (n := 5) (hw _ (List.mem_of_getElem? (i := 167) rfl)) (hw _ (List.mem_of_getElem? (i := 31) rfl)) (hw _ (List.mem_of_getElem? (i := 28) rfl)) (by decide +kernel) (by decide) (by decide) (fun hp Ep Xp Dp => ?_)
          obtain ⟨ap, zp⟩ : ∃ z, z = hd3.size := ⟨_, rfl⟩
          rw [← zp]
          rw [← zp] at Xp Dp
          refine Run.pure hK (seg := [(215, .dup, 1), (216, .aload 6, 2), (218, .aload 8, 2), (220, .aload 9, 2), (222, .aload 11, 2), (224, .aload 14, 2)]) (by decide +kernel) (pc' := 226) (L' := #[.val (.int i0), .val (.int i1), .val (.int i2), .val (.int i3), .val (.int i4), .val (.int i5), .val (.ref sq), .val (.int (1 : Int32)), .val (.ref sk), .val (.ref wt), .val (.int tt), .val (.ref rl), .val (.int rr), .val (.int (3 : Int32)), .val (.ref al), .unset]) (S' := [(.ref al), (.ref rl), (.ref wt), (.ref sk), (.ref sq), (.ref ap), (.ref ap)]) rfl ?_
          replace Al := Al.ext Ep
          have hP : Z.heap.size ≤ ap := by rw [zp]; exact hO3.1
          have hO4 := Ext.tr hO3 Ep
          refine Run.special hK (index := 81) (y := (⟨"com/example/resolve_place/resolveplace/parser/ParsedQuery", "<init>", "(Ljava/lang/String;Ljava/lang/String;Lcom/example/resolve_place/resolveplace/parser/WhatType;Lcom/example/resolve_place/resolveplace/parser/GeoRelation;Ljava/util/List;)V"⟩ : MethodName)) (Wt := 1) (kc := 11) (ks := 124) rfl (hw _ (List.mem_of_getElem? (i := 168) rfl)) (hw _ (List.mem_of_getElem? (i := 169) rfl)) (hw _ (List.mem_of_getElem? (i := 170) rfl)) (by decide) (a := ap) (W' := []) (fun _ q => nomatch q) (Ctr.cal (c_pq53 G ap sq sk wt rl al ar b1 b2 b3 LX hp hP Xp (Dp (Or.inr (hw _ (List.mem_of_getElem? (i := 43) rfl))) (ty := (.object "java/lang/String")) (by decide)) (Dp (Or.inr (hw _ (List.mem_of_getElem? (i := 46) rfl))) (ty := (.object "java/lang/String")) (by decide)) (Dp (Or.inr (hw _ (List.mem_of_getElem? (i := 48) rfl))) (ty := (.object "com/example/resolve_place/resolveplace/parser/WhatType")) (by decide)) (Dp (Or.inr (hw _ (List.mem_of_getElem? (i := 50) rfl))) (ty := (.object "com/example/resolve_place/resolveplace/parser/GeoRelation")) (by decide)) (Dp (Or.inr (hw _ (List.mem_of_getElem? (i := 58) rfl))) (ty := (.object "java/util/List")) (by decide)) Al (XI1.ext Ep) (XI2.ext Ep) (XI3.ext Ep) (Xq.ext Ep) (Xk.ext Ep) (Xt.ext hO4) (Xr.ext hO4)) (hw _ (List.mem_of_getElem? (i := 170) rfl)) (hw _ (List.mem_of_getElem? (i := 28) rfl)) (by decide) (by decide)) rfl (argsL := [(.ref sq), (.ref sk), (.ref wt), (.ref rl), (.ref al)]) (rest := [(.ref ap)]) (lenOf pd_pq5 rfl) rfl (Nat.le_of_ble_eq_true rfl) (by decide +kernel) (by decide) (by decide) (fun vp5 hp5 qp5 np5 => ?_)
          obtain ⟨rfl, pp, Pp, Lp⟩ := qp5
          refine Run.pure hK (seg := [(229, .astore 15, 2), (231, .aload 15, 2)]) (by decide +kernel) (pc' := 233) (L' := #[.val (.int i0), .val (.int i1), .val (.int i2), .val (.int i3), .val (.int i4), .val (.int i5), .val (.ref sq), .val (.int (1 : Int32)), .val (.ref sk), .val (.ref wt), .val (.int tt), .val (.ref rl), .val (.int rr), .val (.int (3 : Int32)), .val (.ref al), .val (.ref ap)]) (S' := [(.ref ap)]) rfl ?_
          refine Run.virtual hK (index := 28) (y := (⟨"com/example/resolve_place/resolveplace/parser/ParsedQuery", "isLocal", "()Z"⟩ : MethodName)) (z := (⟨"com/example/resolve_place/resolveplace/parser/ParsedQuery", "isLocal", "()Z"⟩ : MethodName)) (C := "com/example/resolve_place/resolveplace/parser/ParsedQuery") (Wt := 0) (kc := 0) (ks := 0) (hw _ (List.mem_of_getElem? (i := 59) rfl)) (hw _ (List.mem_of_getElem? (i := 60) rfl)) (nfS (hw _ (List.mem_of_getElem? (i := 62) rfl))) (hw _ (List.mem_of_getElem? (i := 62) rfl)) (hw _ (List.mem_of_getElem? (i := 61) rfl)) (by decide) (a := ap) Pp.1 (W' := []) (fun _ q => nomatch q) (Ctr.cal (c_isl G ap pp EM hp5 Pp Lp) (hw _ (List.mem_of_getElem? (i := 63) rfl)) (hw _ (List.mem_of_getElem? (i := 28) rfl)) (by decide) (by decide)) rfl (argsL := []) (rest := []) (lenOf pd_z rfl) rfl (Nat.le_of_ble_eq_true rfl) (by decide +kernel) (by decide) (by decide) (fun vi hi qi ni => ?_)
          obtain ⟨rfl, rfl⟩ := qi
          rw [if_neg (by decide)]
          refine Run.ifz hK (cd := .eq) (o := 22) (by decide +kernel) (by decide) (pc' := 258) rfl (fun q => by replace q := (h_eq _ _).1 q; exact absurd q (by decide)) (fun _ => ?_)
          refine Run.pure hK (seg := [(239, .aload 15, 2)]) (by decide +kernel) (pc' := 241) (L' := #[.val (.int i0), .val (.int i1), .val (.int i2), .val (.int i3), .val (.int i4), .val (.int i5), .val (.ref sq), .val (.int (1 : Int32)), .val (.ref sk), .val (.ref wt), .val (.int tt), .val (.ref rl), .val (.int rr), .val (.int (3 : Int32)), .val (.ref al), .val (.ref ap)]) (S' := [(.ref ap)]) rfl ?_
          refine Run.virtual hK (index := 32) (y := (⟨"com/example/resolve_place/resolveplace/parser/ParsedQuery", "places", "()Ljava/util/List;"⟩ : MethodName)) (z := (⟨"com/example/resolve_place/resolveplace/parser/ParsedQuery", "places", "()Ljava/util/List;"⟩ : MethodName)) (C := "com/example/resolve_place/resolveplace/parser/ParsedQuery") (Wt := 0) (kc := 0) (ks := 0) (hw _ (List.mem_of_getElem? (i := 76) rfl)) (hw _ (List.mem_of_getElem? (i := 77) rfl)) (nfS (hw _ (List.mem_of_getElem? (i := 79) rfl))) (hw _ (List.mem_of_getElem? (i := 79) rfl)) (hw _ (List.mem_of_getElem? (i := 78) rfl)) (by decide) (a := ap) Pp.1 (W' := []) (fun _ q => nomatch q) (Ctr.cal (c_pl G ap pp hi Pp) (hw _ (List.mem_of_getElem? (i := 80) rfl)) (hw _ (List.mem_of_getElem? (i := 28) rfl)) (by decide) (by decide)) rfl (argsL := []) (rest := []) (lenOf pd_lo rfl) rfl (Nat.le_of_ble_eq_true rfl) (by decide +kernel) (by decide) (by decide) (fun vj hj qj nj => ?_)
          obtain ⟨rfl, rfl⟩ := qj
          rcases Lp with ⟨f1, e, f2, f3⟩ | ⟨f1, b, k, vs, f2, f3⟩
          · refine Run.iface hK (index := 84) (count := 1) (y := (⟨"java/util/List", "size", "()I"⟩ : MethodName)) (z := (⟨"java/util/ImmutableCollections$List12", "size", "()I"⟩ : MethodName)) (C := "java/util/ImmutableCollections$List12") (Wt := 0) (kc := 0) (ks := 0) (fun _ _ z => mv z (hw _ (List.mem_of_getElem? (i := 269) rfl))) (fun _ _ z => mv z (hw _ (List.mem_of_getElem? (i := 270) rfl))) (fun _ _ z => mv z (hw _ (List.mem_of_getElem? (i := 271) rfl))) (fun _ _ z => mv z (hw _ (List.mem_of_getElem? (i := 272) rfl))) (fun _ _ z => mv z (hw _ (List.mem_of_getElem? (i := 273) rfl))) (fun _ _ z => mv z (hw _ (List.mem_of_getElem? (i := 274) rfl))) (fun _ _ z => mv z (hw _ (List.mem_of_getElem? (i := 275) rfl))) (fun _ _ z => mv z (hw _ (List.mem_of_getElem? (i := 267) rfl))) (by decide) (a := pp) f1 (W' := []) (fun _ q => nomatch q) (Ctr.cal (len := 5) (c_s12 G pp e LX hj f2) (hw _ (List.mem_of_getElem? (i := 276) rfl)) (hw _ (List.mem_of_getElem? (i := 236) rfl)) (by decide) (by decide)) rfl (argsL := []) (rest := []) (lenOf pd_i rfl) rfl (Nat.le_of_ble_eq_true rfl) (by decide +kernel) (by decide) (by decide) (fun vs hs qs ns => ?_)
            obtain ⟨rfl, rfl⟩ := qs
            rw [← f3]
            refine Run.pure hK (seg := [(249, .iload 13, 2)]) (by decide +kernel) (pc' := 251) (L' := #[.val (.int i0), .val (.int i1), .val (.int i2), .val (.int i3), .val (.int i4), .val (.int i5), .val (.ref sq), .val (.int (1 : Int32)), .val (.ref sk), .val (.ref wt), .val (.int tt), .val (.ref rl), .val (.int rr), .val (.int (3 : Int32)), .val (.ref al), .val (.ref ap)]) (S' := [(.int (3 : Int32)), (.int (3 : Int32))]) rfl ?_
            refine Run.icmp hK (cd := .ne) (o := 7) (by decide +kernel) (by decide) (pc' := 258) rfl (fun q => by replace q := (h_ne _ _).1 q; exact absurd rfl q) (fun _ => ?_)
            refine Run.pure hK (seg := [(254, .iconst 1, 1), (255, .goto 4, 3)]) (by decide +kernel) (pc' := 259) (L' := #[.val (.int i0), .val (.int i1), .val (.int i2), .val (.int i3), .val (.int i4), .val (.int i5), .val (.ref sq), .val (.int (1 : Int32)), .val (.ref sk), .val (.ref wt), .val (.int tt), .val (.ref rl), .val (.int rr), .val (.int (3 : Int32)), .val (.ref al), .val (.ref ap)]) (S' := [(.int (1 : Int32))]) rfl ?_
            exact Run.retw hK (i := .ireturn) rfl (Or.inl ⟨rfl, Or.inr (Or.inl rfl), _, rfl⟩) (by decide +kernel) (by decide) (by decide) rfl
          · refine Run.iface hK (index := 84) (count := 1) (y := (⟨"java/util/List", "size", "()I"⟩ : MethodName)) (z := (⟨"java/util/ImmutableCollections$ListN", "size", "()I"⟩ : MethodName)) (C := "java/util/ImmutableCollections$ListN") (Wt := 0) (kc := 0) (ks := 0) (fun _ _ z => mv z (hw _ (List.mem_of_getElem? (i := 269) rfl))) (fun _ _ z => mv z (hw _ (List.mem_of_getElem? (i := 270) rfl))) (fun _ _ z => mv z (hw _ (List.mem_of_getElem? (i := 271) rfl))) (fun _ _ z => mv z (hw _ (List.mem_of_getElem? (i := 312) rfl))) (fun _ _ z => mv z (hw _ (List.mem_of_getElem? (i := 313) rfl))) (fun _ _ z => mv z (hw _ (List.mem_of_getElem? (i := 314) rfl))) (fun _ _ z => mv z (hw _ (List.mem_of_getElem? (i := 315) rfl))) (fun _ _ z => mv z (hw _ (List.mem_of_getElem? (i := 71) rfl))) (by decide) (a := pp) f1 (W' := []) (fun _ q => nomatch q) (Ctr.cal (len := 5) (c_sn G pp b hj f2 f3) (hw _ (List.mem_of_getElem? (i := 316) rfl)) (hw _ (List.mem_of_getElem? (i := 72) rfl)) (by decide) (by decide)) rfl (argsL := []) (rest := []) (lenOf pd_i rfl) rfl (Nat.le_of_ble_eq_true rfl) (by decide +kernel) (by decide) (by decide) (fun vs hs qs ns => ?_)
            obtain ⟨rfl, rfl⟩ := qs
            refine Run.pure hK (seg := [(249, .iload 13, 2)]) (by decide +kernel) (pc' := 251) (L' := #[.val (.int i0), .val (.int i1), .val (.int i2), .val (.int i3), .val (.int i4), .val (.int i5), .val (.ref sq), .val (.int (1 : Int32)), .val (.ref sk), .val (.ref wt), .val (.int tt), .val (.ref rl), .val (.int rr), .val (.int (3 : Int32)), .val (.ref al), .val (.ref ap)]) (S' := [(.int (3 : Int32)), (.int (3 : Int32))]) rfl ?_
            refine Run.icmp hK (cd := .ne) (o := 7) (by decide +kernel) (by decide) (pc' := 258) rfl (fun q => by replace q := (h_ne _ _).1 q; exact absurd rfl q) (fun _ => ?_)
            refine Run.pure hK (seg := [(254, .iconst 1, 1), (255, .goto 4, 3)]) (by decide +kernel) (pc' := 259) (L' := #[.val (.int i0), .val (.int i1), .val (.int i2), .val (.int i3), .val (.int i4), .val (.int i5), .val (.ref sq), .val (.int (1 : Int32)), .val (.ref sk), .val (.ref wt), .val (.int tt), .val (.ref rl), .val (.int rr), .val (.int (3 : Int32)), .val (.ref al), .val (.ref ap)]) (S' := [(.int (1 : Int32))]) rfl ?_
            exact Run.retw hK (i := .ireturn) rfl (Or.inl ⟨rfl, Or.inr (Or.inl rfl), _, rfl⟩) (by decide +kernel) (by decide) (by decide) rfl
      refine Run.pure hK (seg := [(110, .iload 12, 2), (112, .iconst 1, 1)]) (by decide +kernel) (pc' := 113) (L' := #[.val (.int i0), .val (.int i1), .val (.int i2), .val (.int i3), .val (.int i4), .val (.int i5), .val (.ref sq), .val (.int (1 : Int32)), .val (.ref sk), .val (.ref wt), .val (.int tt), .val (.ref aIN), .val (.int rr), .unset, .unset, .unset]) (S' := [(.int (1 : Int32)), (.int rr)]) rfl ?_
      refine Run.icmp hK (cd := .ne) (o := 11) (by decide +kernel) (by decide) (pc' := 124) rfl (fun r1 => ?_) (fun r1 => ?_)
      · replace r1 := (h_ne _ _).1 r1
        refine Run.pure hK (seg := [(124, .iload 12, 2), (126, .iconst 2, 1)]) (by decide +kernel) (pc' := 127) (L' := #[.val (.int i0), .val (.int i1), .val (.int i2), .val (.int i3), .val (.int i4), .val (.int i5), .val (.ref sq), .val (.int (1 : Int32)), .val (.ref sk), .val (.ref wt), .val (.int tt), .val (.ref aIN), .val (.int rr), .unset, .unset, .unset]) (S' := [(.int (2 : Int32)), (.int rr)]) rfl ?_
        refine Run.icmp hK (cd := .ne) (o := 11) (by decide +kernel) (by decide) (pc' := 138) rfl (fun r2 => ?_) (fun r2 => ?_)
        · replace r2 := (h_ne _ _).1 r2
          refine Run.pure hK (seg := [(138, .iload 12, 2), (140, .iconst 3, 1)]) (by decide +kernel) (pc' := 141) (L' := #[.val (.int i0), .val (.int i1), .val (.int i2), .val (.int i3), .val (.int i4), .val (.int i5), .val (.ref sq), .val (.int (1 : Int32)), .val (.ref sk), .val (.ref wt), .val (.int tt), .val (.ref aIN), .val (.int rr), .unset, .unset, .unset]) (S' := [(.int (3 : Int32)), (.int rr)]) rfl ?_
          refine Run.icmp hK (cd := .ne) (o := 8) (by decide +kernel) (by decide) (pc' := 149) rfl (fun r3 => ?_) (fun r3 => ?_)
          · replace r3 := (h_ne _ _).1 r3
            exact j149 _ XIN
          · replace r3 := (h_ne _ _).2 r3
            refine Run.gets hK (index := 65) (hw _ (List.mem_of_getElem? (i := 288) rfl)) Via.refl (SUNDEFINED.ext hO) (by decide +kernel) ?_
            refine Run.pure hK (seg := [(147, .astore 11, 2)]) (by decide +kernel) (pc' := 149) (L' := #[.val (.int i0), .val (.int i1), .val (.int i2), .val (.int i3), .val (.int i4), .val (.int i5), .val (.ref sq), .val (.int (1 : Int32)), .val (.ref sk), .val (.ref wt), .val (.int tt), .val (.ref aUNDEFINED), .val (.int rr), .unset, .unset, .unset]) (S' := []) rfl ?_
            exact j149 _ XUNDEFINED
        · replace r2 := (h_ne _ _).2 r2
          refine Run.gets hK (index := 62) (hw _ (List.mem_of_getElem? (i := 317) rfl)) Via.refl (SDEFINITION.ext hO) (by decide +kernel) ?_
          refine Run.pure hK (seg := [(133, .astore 11, 2), (135, .goto 14, 3)]) (by decide +kernel) (pc' := 149) (L' := #[.val (.int i0), .val (.int i1), .val (.int i2), .val (.int i3), .val (.int i4), .val (.int i5), .val (.ref sq), .val (.int (1 : Int32)), .val (.ref sk), .val (.ref wt), .val (.int tt), .val (.ref aDEFINITION), .val (.int rr), .unset, .unset, .unset]) (S' := []) rfl ?_
          exact j149 _ XDEFINITION
      · replace r1 := (h_ne _ _).2 r1
        refine Run.gets hK (index := 59) (hw _ (List.mem_of_getElem? (i := 88) rfl)) Via.refl (SNEAR.ext hO) (by decide +kernel) ?_
        refine Run.pure hK (seg := [(119, .astore 11, 2), (121, .goto 28, 3)]) (by decide +kernel) (pc' := 149) (L' := #[.val (.int i0), .val (.int i1), .val (.int i2), .val (.int i3), .val (.int i4), .val (.int i5), .val (.ref sq), .val (.int (1 : Int32)), .val (.ref sk), .val (.ref wt), .val (.int tt), .val (.ref aNEAR), .val (.int rr), .unset, .unset, .unset]) (S' := []) rfl ?_
        exact j149 _ XNEAR
    refine Run.pure hK (seg := [(74, .iload 10, 2), (76, .iconst 1, 1)]) (by decide +kernel) (pc' := 77) (L' := #[.val (.int i0), .val (.int i1), .val (.int i2), .val (.int i3), .val (.int i4), .val (.int i5), .val (.ref sq), .val (.int (1 : Int32)), .val (.ref sk), .val (.ref aMAP), .val (.int tt), .unset, .unset, .unset, .unset, .unset]) (S' := [(.int (1 : Int32)), (.int tt)]) rfl ?_
    refine Run.icmp hK (cd := .ne) (o := 11) (by decide +kernel) (by decide) (pc' := 88) rfl (fun t1 => ?_) (fun t1 => ?_)
    · replace t1 := (h_ne _ _).1 t1
      refine Run.pure hK (seg := [(88, .iload 10, 2), (90, .iconst 2, 1)]) (by decide +kernel) (pc' := 91) (L' := #[.val (.int i0), .val (.int i1), .val (.int i2), .val (.int i3), .val (.int i4), .val (.int i5), .val (.ref sq), .val (.int (1 : Int32)), .val (.ref sk), .val (.ref aMAP), .val (.int tt), .unset, .unset, .unset, .unset, .unset]) (S' := [(.int (2 : Int32)), (.int tt)]) rfl ?_
      refine Run.icmp hK (cd := .lt) (o := 8) (by decide +kernel) (by decide) (pc' := 99) rfl (fun t2 => ?_) (fun t2 => ?_)
      · replace t2 := (h_lt _ _).1 t2
        exact j99 _ XMAP
      · replace t2 := (h_lt _ _).2 t2
        refine Run.gets hK (index := 50) (hw _ (List.mem_of_getElem? (i := 291) rfl)) Via.refl (SINFORMATION.ext hO) (by decide +kernel) ?_
        refine Run.pure hK (seg := [(97, .astore 9, 2)]) (by decide +kernel) (pc' := 99) (L' := #[.val (.int i0), .val (.int i1), .val (.int i2), .val (.int i3), .val (.int i4), .val (.int i5), .val (.ref sq), .val (.int (1 : Int32)), .val (.ref sk), .val (.ref aINFORMATION), .val (.int tt), .unset, .unset, .unset, .unset, .unset]) (S' := []) rfl ?_
        exact j99 _ XINFORMATION
    · replace t1 := (h_ne _ _).2 t1
      refine Run.gets hK (index := 47) (hw _ (List.mem_of_getElem? (i := 333) rfl)) Via.refl (SYELLOW_PAGE.ext hO) (by decide +kernel) ?_
      refine Run.pure hK (seg := [(83, .astore 9, 2), (85, .goto 14, 3)]) (by decide +kernel) (pc' := 99) (L' := #[.val (.int i0), .val (.int i1), .val (.int i2), .val (.int i3), .val (.int i4), .val (.int i5), .val (.ref sq), .val (.int (1 : Int32)), .val (.ref sk), .val (.ref aYELLOW_PAGE), .val (.int tt), .unset, .unset, .unset, .unset, .unset]) (S' := []) rfl ?_
      exact j99 _ XYELLOW_PAGE
set_option maxRecDepth 65536 in
set_option maxHeartbeats 40000000 in
theorem comes_1 {Post : Tables → Env → Array Value → State → Outcome → State → Prop} (hpost : ∀ tb e args s v u, (limb_1_1.after args s (.returned v) u = true ∧ limb_1_2.after args s (.returned v) u = true ∧ True) → ReturnedEndW s (.returned v) u (Jvm.fieldLocs frame_1_writes args s ++ Jvm.arrayLocs frame_1_arrays args s ++ Jvm.staticLocs frame_1_statics s) 56 6336 → Post tb e args s (.returned v) u) :
    ArmFor flags0 classFile x code maxLocals ret World_1 tables_1 room_1 Calls_1 rest_1 Pre_1 Post := by
  intro l hfl _ _ p e ha hc hk s m args below hf hA hF happ hP
  obtain ⟨hcalls, hrest, hpre⟩ := hP
  obtain ⟨-, -, -, hnamed, -, -, -, hat⟩ := (Spec.applies_iff hf).mp happ
  obtain ⟨hg, hn⟩ := and_e (Cond.before_iff.mp (show (Jvm.Cond.and given_1 narrow_1).before args s = true from hpre))
  obtain ⟨k0, r0⟩ := and_e hg
  obtain ⟨k1, r1⟩ := and_e r0
  obtain ⟨k2, r2⟩ := and_e r1
  obtain ⟨k3, r3⟩ := and_e r2
  obtain ⟨k4, r4⟩ := and_e r3
  obtain ⟨k5, r5⟩ := and_e r4
  obtain ⟨w0, w1, w2, w3, w4, w5, rfl⟩ : ∃ w0 w1 w2 w3 w4 w5 : Value, args = #[w0, w1, w2, w3, w4, w5] := by
    have hs : args.size = 6 := by simpa [Cond.value, given_1] using k0
    obtain ⟨L⟩ := args
    match L, hs with
    | [w0, w1, w2, w3, w4, w5], _ => exact ⟨w0, w1, w2, w3, w4, w5, rfl⟩
  have hw := fun d (hd : d ∈ tables_1) => atoms_spec (ws := Jvm.Cond.code x code maxLocals ret :: tables_1) hat d (List.mem_cons_of_mem _ hd)
  obtain ⟨i0, f0⟩ := is_v k1
  obtain rfl : w0 = (.int i0) := Option.some.inj f0
  obtain ⟨i1, f1⟩ := is_v k2
  obtain rfl : w1 = (.int i1) := Option.some.inj f1
  obtain ⟨i2, f2⟩ := is_v k3
  obtain rfl : w2 = (.int i2) := Option.some.inj f2
  obtain ⟨i3, f3⟩ := is_v k4
  obtain rfl : w3 = (.int i3) := Option.some.inj f3
  obtain ⟨i4, f4⟩ := is_v k5
  obtain rfl : w4 = (.int i4) := Option.some.inj f4
  obtain ⟨i5, f5⟩ := is_v r5
  obtain rfl : w5 = (.int i5) := Option.some.inj f5
  obtain ⟨hsets, hown0⟩ := atoms_of _ (rest_1_c_eq ▸ (show rest_1_c.before _ s = true from hrest))
  have nz := not_v (Cond.before_iff.mp (hsets _ (List.mem_of_getElem? (i := 35) rfl)))
  obtain ⟨z0, ez⟩ := is_v (Cond.before_iff.mp (hsets _ (List.mem_of_getElem? (i := 34) rfl)))
  have O2 : Sta s s.heap "java/lang/String" "COMPACT_STRINGS" "Z" (.int z0) := Sta.start ez (Or.inl (hsets _ (List.mem_of_getElem? (i := 33) rfl)))
  have P5 : ¬ (z0 = (0 : Int32)) := gotF (Cond.eq_ints ez (Term.int_eval (0))) nz
  have hEL : EW s _ consts_1 := EW.cons (hw _ (List.mem_of_getElem? (i := 36) rfl)) (by decide) (EW.cons (hw _ (List.mem_of_getElem? (i := 177) rfl)) (by decide) (EW.cons (hw _ (List.mem_of_getElem? (i := 178) rfl)) (by decide) (EW.cons (hw _ (List.mem_of_getElem? (i := 181) rfl)) (by decide) (EW.cons (hw _ (List.mem_of_getElem? (i := 44) rfl)) (by decide) (EW.cons (hw _ (List.mem_of_getElem? (i := 18) rfl)) (by decide) (EW.nil))))))
  have hheld : ∀ p ∈ consts_1, Jvm.Lit.constHeld s p.1 p.2 := fun p hp => hcalls.2.1 p hp
  have hCH : CHv s consts_1 s.vm s.heap := CHv.start hEL hheld (show (Jvm.Cond.not (Jvm.Cond.eq (Jvm.Term.static "java/lang/String" "COMPACT_STRINGS" "Z") (Jvm.Term.int (0 : Int32)))).before _ s = true from (hsets _ (List.mem_of_getElem? (i := 35) rfl))) (hw _ (List.mem_of_getElem? (i := 19) rfl)) (hw _ (List.mem_of_getElem? (i := 5) rfl))
  have eh := eqv_i (Term.int_eval (127)) (Cond.before_iff.mp (hsets _ (List.mem_of_getElem? (i := 19) rfl)))
  have IH : Sta s s.heap "java/lang/Integer$IntegerCache" "high" "I" (.int 127) := Sta.start eh (Or.inl (hsets _ (List.mem_of_getElem? (i := 17) rfl)))
  obtain ⟨ca, eca⟩ := arr_v (Cond.before_iff.mp (hsets _ (List.mem_of_getElem? (i := 20) rfl)))
  have IS : Sta s s.heap "java/lang/Integer$IntegerCache" "cache" "[Ljava/lang/Integer;" (.ref ca) := Sta.start eca (Or.inr ⟨(hw _ (List.mem_of_getElem? (i := 120) rfl)), (hsets _ (List.mem_of_getElem? (i := 18) rfl))⟩)
  obtain ⟨cc, Ac⟩ := Arr.start eca (Cond.before_iff.mp (hsets _ (List.mem_of_getElem? (i := 20) rfl)))
  have el := eqv_i (Term.int_eval (256)) (Cond.before_iff.mp (hsets _ (List.mem_of_getElem? (i := 22) rfl)))
  obtain ⟨ca', cc', el1, el2, el3⟩ := Term.length_spec el
  cases eca.symm.trans el1
  cases (Ac.fin (Vm.Alike.refl _)).symm.trans el2
  have lt := Jvm.Free.SBG.length_lt eca el2 el
  have IB : Bxs s ca cc "java/lang/Integer" "I" 256 (fun j => .int (j - 128)) := Bxs.start (fun _ => eca) Ac lt (by injection el3 with el3; exact el3.symm) (by decide) (Cond.before_iff.mp (hsets _ (List.mem_of_getElem? (i := 23) rfl))) (fun X j nn h => eqv_i (Term.sub_int (idx_at nn) (Term.int_eval (128))) h)
  have IA : ICa s := ⟨IH, ca, cc, _, IS, IB⟩
  obtain ⟨N1, eN1⟩ := arr_v (Cond.before_iff.mp (hsets _ (List.mem_of_getElem? (i := 13) rfl)))
  have SD : Sta s s.heap "java/util/ArrayList" "DEFAULTCAPACITY_EMPTY_ELEMENTDATA" "[Ljava/lang/Object;" (.ref N1) := Sta.start eN1 (Or.inr ⟨(hw _ (List.mem_of_getElem? (i := 93) rfl)), (hsets _ (List.mem_of_getElem? (i := 9) rfl))⟩)
  obtain ⟨ccD, AcD⟩ := Arr.start eN1 (Cond.before_iff.mp (hsets _ (List.mem_of_getElem? (i := 13) rfl)))
  have elD := eqv_i (Term.int_eval (0)) (Cond.before_iff.mp (hsets _ (List.mem_of_getElem? (i := 15) rfl)))
  obtain ⟨uD, vD, pD, qD, rD⟩ := Term.length_spec elD
  cases eN1.symm.trans pD
  cases (AcD.fin (Vm.Alike.refl _)).symm.trans qD
  have ltD := Jvm.Free.SBG.length_lt eN1 qD elD
  have szD : ccD.slots.size = 0 := by injection rD with rD; have z := len_toInt ltD; rw [← rD] at z; have z0 : (0 : Int32).toInt = 0 := rfl; omega
  have AD : Arv s s.heap _ ccD.cls (.object "java/lang/Object") 0 [] .null := ⟨ccD, AcD, rfl, by rw [szD]; rfl, by decide, (fun i hi => by rw [szD] at hi; cases hi), (fun i hi => by rw [szD] at hi; cases hi)⟩
  obtain ⟨E0, eE0⟩ := exa_v (Cond.before_iff.mp (hsets _ (List.mem_of_getElem? (i := 2) rfl)))
  have SE : Sta s s.heap "java/util/ImmutableCollections" "EMPTY_LIST" "Ljava/util/ImmutableCollections$ListN;" (.ref E0) := Sta.start eE0 (Or.inl (hsets _ (List.mem_of_getElem? (i := 1) rfl)))
  have XE := Exa.start eE0 (Cond.before_iff.mp (hsets _ (List.mem_of_getElem? (i := 2) rfl)))
  obtain ⟨e0, ee0⟩ := arr_v (Cond.before_iff.mp (hsets _ (List.mem_of_getElem? (i := 3) rfl)))
  have FE : Fld s s.heap E0 "java/util/ImmutableCollections$ListN" "elements" "[Ljava/lang/Object;" (.ref e0) := Fld.start ((fld_at eE0).symm.trans ee0)
  obtain ⟨ccE, AcE⟩ := Arr.start ee0 (Cond.before_iff.mp (hsets _ (List.mem_of_getElem? (i := 3) rfl)))
  have elE := eqv_i (Term.int_eval (0)) (Cond.before_iff.mp (hsets _ (List.mem_of_getElem? (i := 5) rfl)))
  obtain ⟨uE, vE, pE, qE, rE⟩ := Term.length_spec elE
  cases ee0.symm.trans pE
  cases (AcE.fin (Vm.Alike.refl _)).symm.trans qE
  have ltE := Jvm.Free.SBG.length_lt ee0 qE elE
  have szE : ccE.slots.size = 0 := by injection rE with rE; have z := len_toInt ltE; rw [← rE] at z; have z0 : (0 : Int32).toInt = 0 := rfl; omega
  have AE : Arv s s.heap _ ccE.cls (.object "java/lang/Object") 0 [] .null := ⟨ccE, AcE, rfl, by rw [szE]; rfl, by decide, (fun i hi => by rw [szE] at hi; cases hi), (fun i hi => by rw [szE] at hi; cases hi)⟩
  obtain ⟨EM, eEM⟩ := exa_v (Cond.before_iff.mp (hsets _ (List.mem_of_getElem? (i := 26) rfl)))
  have SM : Sta s s.heap "java/util/ImmutableCollections" "EMPTY" "Ljava/lang/Object;" (.ref EM) := Sta.start eEM (Or.inl (hsets _ (List.mem_of_getElem? (i := 25) rfl)))
  have XM := Exa.start eEM (Cond.before_iff.mp (hsets _ (List.mem_of_getElem? (i := 26) rfl)))
  obtain ⟨cM, kM, mr, m1, m2, m3, -⟩ := hcalls.1
  have LX : LF s N1 E0 e0 EM mr ccD.cls ccE.cls := ⟨SD, AD, SE, XE, FE, AE, SM, XM, ⟨cM, kM, m1, m2, m3⟩⟩
  obtain ⟨y0, x0⟩ := and_e hn
  obtain ⟨n0, en0⟩ := exa_v y0
  have N_0 : EnW s "MAP" := ⟨n0, Sta.start en0 (Or.inr ⟨(hw _ (List.mem_of_getElem? (i := 83) rfl)), (hw _ (List.mem_of_getElem? (i := 84) rfl))⟩), Exa.start en0 y0⟩
  obtain ⟨y1, x1⟩ := and_e x0
  obtain ⟨n1, en1⟩ := exa_v y1
  have N_1 : EnG s "IN" := ⟨n1, Sta.start en1 (Or.inr ⟨(hw _ (List.mem_of_getElem? (i := 86) rfl)), (hw _ (List.mem_of_getElem? (i := 87) rfl))⟩), Exa.start en1 y1⟩
  obtain ⟨y2, x2⟩ := and_e x1
  obtain ⟨n2, en2⟩ := exa_v y2
  have N_2 : EnG s "NEAR" := ⟨n2, Sta.start en2 (Or.inr ⟨(hw _ (List.mem_of_getElem? (i := 86) rfl)), (hw _ (List.mem_of_getElem? (i := 89) rfl))⟩), Exa.start en2 y2⟩
  obtain ⟨y3, x3⟩ := and_e x2
  obtain ⟨n3, en3⟩ := exa_v y3
  have N_3 : EnG s "UNDEFINED" := ⟨n3, Sta.start en3 (Or.inr ⟨(hw _ (List.mem_of_getElem? (i := 86) rfl)), (hw _ (List.mem_of_getElem? (i := 289) rfl))⟩), Exa.start en3 y3⟩
  obtain ⟨y4, x4⟩ := and_e x3
  obtain ⟨n4, en4⟩ := exa_v y4
  have N_4 : EnW s "INFORMATION" := ⟨n4, Sta.start en4 (Or.inr ⟨(hw _ (List.mem_of_getElem? (i := 83) rfl)), (hw _ (List.mem_of_getElem? (i := 292) rfl))⟩), Exa.start en4 y4⟩
  obtain ⟨y5, x5⟩ := and_e x4
  obtain ⟨n5, en5⟩ := exa_v y5
  have N_5 : EnG s "DEFINITION" := ⟨n5, Sta.start en5 (Or.inr ⟨(hw _ (List.mem_of_getElem? (i := 86) rfl)), (hw _ (List.mem_of_getElem? (i := 318) rfl))⟩), Exa.start en5 y5⟩
  obtain ⟨n6, en6⟩ := exa_v x5
  have N_6 : EnW s "YELLOW_PAGE" := ⟨n6, Sta.start en6 (Or.inr ⟨(hw _ (List.mem_of_getElem? (i := 83) rfl)), (hw _ (List.mem_of_getElem? (i := 334) rfl))⟩), Exa.start en6 x5⟩
  obtain ⟨n, o, g1, g2, g3, v, Lo, rfl, hv, hF', -, hq, hwn, -⟩ := c_law (⟨hw, hEL, O2, P5, rfl⟩ : Env1 s _ z0 .null) i0 i1 i2 i3 i4 i5 IA LX ⟨N_0, N_1, N_2, N_3, N_4, N_5, N_6⟩ s.heap p e ha hc hk s m _ below hf ((Spec.applies_iff_loose hf).mp happ).1 ⟨rfl, State.Warmed39.refl s, rfl, hCH, fun _ q => (nomatch q), Nat.le_refl _, fun _ _ q => q⟩ trivial
  obtain rfl : v = some (.int 1) := hv
  refine ⟨n, _, g1, g2, g3, hpost _ _ _ _ _ _ ⟨Cond.after_iff.mpr rfl, Cond.after_iff.mpr (eq_i res_at (Term.int_eval (1)) rfl), trivial⟩ ⟨hq.1, hq.2.1, hq.2.2.1, (hq.2.2.2.sift fun y hy => Or.inr (hF' y hy)).mono (by decide) (by decide)⟩⟩
theorem main_1_1 : Claimed_1_1 := comes_1 fun _ _ _ _ _ _ h hF => ⟨h.1, hF⟩
theorem main_1_2 : Claimed_1_2 := comes_1 fun _ _ _ _ _ _ h hF => ⟨h.2.1, hF⟩
end Jvm.Pilot.@@N@@
namespace Jvm.Pilot.@@N@@
open Jvm Jvm.ClassFile Sem Op Lib Jvm.Free Jvm.Stand Jvm.Pilot.@@N@@.Jvm.D
/-! MADE BY PROGRAM (witnessworld.py) out of the Statement's table words and the real class files: 46 classes; the members and pool entries that the words name. The judged class is class 1, her method 2. -/
namespace start1
open Jvm.ClassFile
def u (s : String) : CpInfo := .utf8 (stringToUtf16 s)
/-- a pool by its gaps: so many unusable entries, then the entry; so many at the end -/
def gap : Nat → List CpInfo → List CpInfo
  | 0, r => r
  | n + 1, r => .unusable :: gap n r
def poolList (es : List (Nat × CpInfo)) (last : Nat) : List CpInfo := es.foldr (fun e r => gap e.1 (e.2 :: r)) (gap last [])
def pool (es : List (Nat × CpInfo)) (last : Nat) : Array CpInfo := ⟨poolList es last⟩
def fileOf (pool : Array CpInfo) (this : Nat) (attrs : Array Attribute := #[]) (ms : Array MethodInfo := #[]) (fl : Nat := 33) (sup : Nat := 0) (ifs : Array Nat := #[]) (fds : Array FieldInfo := #[]) : ClassFile where
  minorVersion := 0
  majorVersion := 65
  constantPool := pool
  accessFlags := fl
  thisClass := this
  superClass := sup
  interfaces := ifs
  fields := fds
  methods := ms
  attributes := attrs
def plain (name : String) (sup : Option ClassId) : Class where
  name := name
  kind := .ordinary
  loader := none
  accessFlags := 33
  super := sup
  interfaces := #[]
  cf := none
  fields := #[]
  methods := #[]
  instanceTypes := #[]
  staticTypes := #[]
  resolved := #[]
  callSites := []
  init := .initialized
  statics := none
  mirror := none

def pool0 : Array CpInfo := pool [(5, u "<init>"), (0, u "()V"), (1, .class_ 10), (1, u "java/lang/Object"), (0, u "getClass"), (0, u "()Ljava/lang/Class;")] 111

def k0c0 : Code := { maxStack := 0, maxLocals := 1, code := object_method_1_code, exceptionTable := #[], attributes := #[] }
def k0m0 : Method := { name := "<init>", desc := "()V", sig := { parameters := [], returnType := none }, accessFlags := 1, code := some k0c0 }
def k0m1 : Method := { name := "getClass", desc := "()Ljava/lang/Class;", sig := { parameters := [], returnType := some (.object "java/lang/Class") }, accessFlags := 273, code := none }
/-- java/lang/Object -/
def k0 : Class := { plain "java/lang/Object" none with
  accessFlags := 33
  interfaces := #[]
  cf := some (fileOf pool0 8 #[] #[{ accessFlags := 1, nameIndex := 5, descriptorIndex := 6, attributes := #[] }, { accessFlags := 273, nameIndex := 11, descriptorIndex := 12, attributes := #[] }] 33 0 #[] #[])
  fields := #[]
  methods := #[k0m0, k0m1]
  instanceTypes := #[]
  staticTypes := #[]
  resolved := Array.replicate 124 none
  statics := none }

def pool1 : Array CpInfo := pool [(2, .class_ 4), (0, .nameAndType 5 6), (0, u "java/lang/Object"), (0, u "<init>"), (0, u "()V"), (0, .class_ 8), (0, u "java/lang/String"), (0, .methodref 7 10), (0, .nameAndType 5 11), (0, u "([C)V"), (0, .methodref 7 13), (0, .nameAndType 14 15), (0, u "valueOf"), (0, u "(C)Ljava/lang/String;"), (0, .methodref 17 18), (0, .class_ 19), (0, .nameAndType 20 21), (0, u "com/example/resolve_place/resolveplace/parser/ParsedQueryIsLocalPinLaw"), (0, u "drawn"), (0, u "(I)Ljava/lang/String;"), (0, .methodref 23 24), (0, .class_ 25), (0, .nameAndType 26 27), (0, u "com/example/resolve_place/resolveplace/parser/ParsedQuery"), (0, u "notLocal"), (0, u "(Ljava/lang/String;)Lcom/example/resolve_place/resolveplace/parser/ParsedQuery;"), (0, .methodref 23 29), (0, .nameAndType 30 31), (0, u "isLocal"), (0, u "()Z"), (0, .methodref 23 33), (0, .nameAndType 34 35), (0, u "places"), (0, u "()Ljava/util/List;"), (0, .interfaceMethodref 37 38), (0, .class_ 39), (0, .nameAndType 40 31), (0, u "java/util/List"), (0, u "isEmpty"), (0, .fieldref 42 43), (0, .class_ 44), (0, .nameAndType 45 46), (0, u "com/example/resolve_place/resolveplace/parser/WhatType"), (0, u "MAP"), (0, u "Lcom/example/resolve_place/resolveplace/parser/WhatType;"), (0, .fieldref 42 48), (0, .nameAndType 49 46), (0, u "YELLOW_PAGE"), (0, .fieldref 42 51), (0, .nameAndType 52 46), (0, u "INFORMATION"), (0, .fieldref 54 55), (0, .class_ 56), (0, .nameAndType 57 58), (0, u "com/example/resolve_place/resolveplace/parser/GeoRelation"), (0, u "IN"), (0, u "Lcom/example/resolve_place/resolveplace/parser/GeoRelation;"), (0, .fieldref 54 60), (0, .nameAndType 61 58), (0, u "NEAR"), (0, .fieldref 54 63), (0, .nameAndType 64 58), (0, u "DEFINITION"), (0, .fieldref 54 66), (0, .nameAndType 67 58), (0, u "UNDEFINED"), (0, .integer 2147483647), (0, .class_ 70), (0, u "java/util/ArrayList"), (0, .methodref 69 3), (0, .methodref 73 74), (0, .class_ 75), (0, .nameAndType 14 76), (0, u "java/lang/Integer"), (0, u "(I)Ljava/lang/Integer;"), (0, .methodref 69 78), (0, .nameAndType 79 80), (0, u "add"), (0, u "(Ljava/lang/Object;)Z"), (0, .methodref 23 82), (0, .nameAndType 5 83), (0, u "(Ljava/lang/String;Ljava/lang/String;Lcom/example/resolve_place/resolveplace/parser/WhatType;Lcom/example/resolve_place/resolveplace/parser/GeoRelation;Ljava/util/List;)V"), (0, .interfaceMethodref 37 85), (0, .nameAndType 86 87), (0, u "size"), (0, u "()I"), (3, u "law"), (0, u "(IIIIII)Z")] 2

def k1m0 : Method := { name := "<init>", desc := "()V", sig := { parameters := [], returnType := none }, accessFlags := 2, code := none }
def k1c1 : Code := { maxStack := 7, maxLocals := 2, code := method_2_code, exceptionTable := #[], attributes := #[] }
def k1m1 : Method := { name := "drawn", desc := "(I)Ljava/lang/String;", sig := { parameters := [.int], returnType := some (.object "java/lang/String") }, accessFlags := 10, code := some k1c1 }
def k1c2 : Code := { maxStack := 7, maxLocals := 16, code := code, exceptionTable := #[], attributes := #[] }
def k1m2 : Method := { name := "law", desc := "(IIIIII)Z", sig := { parameters := [.int, .int, .int, .int, .int, .int], returnType := some .boolean }, accessFlags := 9, code := some k1c2 }
/-- com/example/resolve_place/resolveplace/parser/ParsedQueryIsLocalPinLaw -/
def k1 : Class := { plain "com/example/resolve_place/resolveplace/parser/ParsedQueryIsLocalPinLaw" (some 0) with
  accessFlags := 49
  interfaces := #[]
  cf := some (fileOf pool1 17 #[] #[{ accessFlags := 2, nameIndex := 5, descriptorIndex := 6, attributes := #[] }, { accessFlags := 10, nameIndex := 20, descriptorIndex := 21, attributes := #[] }, { accessFlags := 9, nameIndex := 91, descriptorIndex := 92, attributes := #[] }] 49 2 #[] #[])
  fields := #[]
  methods := #[k1m0, k1m1, k1m2]
  instanceTypes := #[]
  staticTypes := #[]
  resolved := Array.replicate 95 none
  statics := none }

def pool2 : Array CpInfo := pool [(1, .class_ 2), (0, u "java/io/Serializable"), (0, .class_ 4), (0, u "java/lang/Object")] 2

/-- java/io/Serializable -/
def k2 : Class := { plain "java/io/Serializable" (some 0) with
  accessFlags := 1537
  interfaces := #[]
  cf := some (fileOf pool2 1 #[] #[] 1537 3 #[] #[])
  fields := #[]
  methods := #[]
  instanceTypes := #[]
  staticTypes := #[]
  resolved := Array.replicate 7 none
  statics := none }

def pool3 : Array CpInfo := pool [(1, .class_ 2), (0, u "java/lang/Comparable"), (0, .class_ 4), (0, u "java/lang/Object")] 7

/-- java/lang/Comparable -/
def k3 : Class := { plain "java/lang/Comparable" (some 0) with
  accessFlags := 1537
  interfaces := #[]
  cf := some (fileOf pool3 1 #[] #[] 1537 3 #[] #[])
  fields := #[]
  methods := #[]
  instanceTypes := #[]
  staticTypes := #[]
  resolved := Array.replicate 12 none
  statics := none }

def pool4 : Array CpInfo := pool [(2, .class_ 4), (1, u "java/lang/CharSequence"), (42, .class_ 48), (0, u "java/lang/CharSequence$1CodePointIterator"), (10, .class_ 60), (0, u "java/lang/CharSequence$1CharIterator"), (5, .class_ 67), (0, u "java/lang/Object")] 63

/-- java/lang/CharSequence -/
def k4 : Class := { plain "java/lang/CharSequence" (some 0) with
  accessFlags := 1537
  interfaces := #[]
  cf := some (fileOf pool4 2 #[.nestMembers #[47, 59]] #[] 1537 66 #[] #[])
  fields := #[]
  methods := #[]
  instanceTypes := #[]
  staticTypes := #[]
  resolved := Array.replicate 131 none
  statics := none }

def pool5 : Array CpInfo := pool [(1, .class_ 2), (0, u "java/lang/constant/Constable"), (0, .class_ 4), (0, u "java/lang/Object")] 6

/-- java/lang/constant/Constable -/
def k5 : Class := { plain "java/lang/constant/Constable" (some 0) with
  accessFlags := 1537
  interfaces := #[]
  cf := some (fileOf pool5 1 #[] #[] 1537 3 #[] #[])
  fields := #[]
  methods := #[]
  instanceTypes := #[]
  staticTypes := #[]
  resolved := Array.replicate 11 none
  statics := none }

def pool6 : Array CpInfo := pool [(1, .class_ 2), (0, u "java/lang/constant/ConstantDesc"), (0, .class_ 4), (0, u "java/lang/Object")] 32

/-- java/lang/constant/ConstantDesc -/
def k6 : Class := { plain "java/lang/constant/ConstantDesc" (some 0) with
  accessFlags := 1537
  interfaces := #[]
  cf := some (fileOf pool6 1 #[] #[] 1537 3 #[] #[])
  fields := #[]
  methods := #[]
  instanceTypes := #[]
  staticTypes := #[]
  resolved := Array.replicate 37 none
  statics := none }

def pool7 : Array CpInfo := pool [(1, .methodref 2 3), (0, .class_ 4), (0, .nameAndType 5 6), (0, u "java/lang/Object"), (0, u "<init>"), (0, u "()V"), (0, .string 8), (0, u ""), (0, .fieldref 10 11), (0, .class_ 12), (0, .nameAndType 13 14), (0, u "java/lang/String"), (0, u "value"), (0, u "[B"), (0, .fieldref 10 16), (0, .nameAndType 17 18), (0, u "coder"), (0, u "B"), (2, u "hash"), (0, u "I"), (2, u "hashIsZero"), (0, u "Z"), (0, .methodref 10 28), (0, .nameAndType 5 29), (0, u "([CIILjava/lang/Void;)V"), (8, .fieldref 10 39), (0, .nameAndType 40 26), (0, u "COMPACT_STRINGS"), (1, .class_ 44), (1, u "java/lang/StringUTF16"), (0, u "compress"), (1, .methodref 42 48), (0, .nameAndType 49 50), (0, u "coderFromArrayLen"), (0, u "([BI)B"), (2, u "toBytes"), (53, .class_ 109), (1, u "java/lang/StringLatin1"), (67, .methodref 42 178), (0, .nameAndType 45 179), (0, u "([CII)[B"), (29, .methodref 10 210), (0, .nameAndType 5 211), (0, u "([BB)V"), (157, u "(C)Z"), (205, .class_ 576), (0, u "java/lang/CharSequence"), (22, u "CASE_INSENSITIVE_ORDER"), (0, u "Ljava/util/Comparator;"), (181, u "valueOf"), (0, u "(C)Ljava/lang/String;"), (226, u "([C)V"), (4, .methodref 107 1016), (0, .nameAndType 1017 369), (0, u "canEncode"), (0, .methodref 107 1019), (0, .nameAndType 53 1020), (0, u "(C)[B"), (80, u "serialPersistentFields"), (0, u "[Ljava/io/ObjectStreamField;"), (0, .class_ 1104), (0, u "java/lang/String$CaseInsensitiveComparator"), (1, .class_ 1107), (0, u "java/io/Serializable"), (0, .class_ 1109), (0, u "java/lang/Comparable"), (0, .class_ 1111), (0, u "java/lang/constant/Constable"), (0, .class_ 1113), (0, u "java/lang/constant/ConstantDesc"), (2, u "serialVersionUID"), (0, u "J"), (3, u "REPL"), (0, u "C"), (2, u "LATIN1"), (1, u "UTF16")] 323

def k7m0 : Method := { name := "<init>", desc := "()V", sig := { parameters := [], returnType := none }, accessFlags := 1, code := none }
def k7c1 : Code := { maxStack := 5, maxLocals := 2, code := jdk_42_method_3_code, exceptionTable := #[], attributes := #[] }
def k7m1 : Method := { name := "<init>", desc := "([C)V", sig := { parameters := [(.array .char)], returnType := none }, accessFlags := 1, code := some k7c1 }
def k7c2 : Code := { maxStack := 4, maxLocals := 1, code := jdk_42_method_139_code, exceptionTable := #[], attributes := #[] }
def k7m2 : Method := { name := "valueOf", desc := "(C)Ljava/lang/String;", sig := { parameters := [.char], returnType := some (.object "java/lang/String") }, accessFlags := 9, code := some k7c2 }
def k7c3 : Code := { maxStack := 4, maxLocals := 6, code := jdk_42_method_149_code, exceptionTable := #[], attributes := #[] }
def k7m3 : Method := { name := "<init>", desc := "([CIILjava/lang/Void;)V", sig := { parameters := [(.array .char), .int, .int, (.object "java/lang/Void")], returnType := none }, accessFlags := 2, code := some k7c3 }
def k7c4 : Code := { maxStack := 2, maxLocals := 3, code := jdk_42_method_151_code, exceptionTable := #[], attributes := #[] }
def k7m4 : Method := { name := "<init>", desc := "([BB)V", sig := { parameters := [(.array .byte), .byte], returnType := none }, accessFlags := 0, code := some k7c4 }
/-- java/lang/String -/
def k7 : Class := { plain "java/lang/String" (some 0) with
  accessFlags := 49
  interfaces := #[2, 3, 4, 5, 6]
  cf := some (fileOf pool7 10 #[.nestMembers #[1103]] #[{ accessFlags := 1, nameIndex := 5, descriptorIndex := 6, attributes := #[] }, { accessFlags := 1, nameIndex := 5, descriptorIndex := 1010, attributes := #[] }, { accessFlags := 9, nameIndex := 782, descriptorIndex := 783, attributes := #[] }, { accessFlags := 2, nameIndex := 5, descriptorIndex := 29, attributes := #[] }, { accessFlags := 0, nameIndex := 5, descriptorIndex := 211, attributes := #[] }] 49 2 #[1106, 1108, 575, 1110, 1112] #[{ accessFlags := 18, nameIndex := 13, descriptorIndex := 14, attributes := #[] }, { accessFlags := 18, nameIndex := 17, descriptorIndex := 18, attributes := #[] }, { accessFlags := 2, nameIndex := 21, descriptorIndex := 22, attributes := #[] }, { accessFlags := 2, nameIndex := 25, descriptorIndex := 26, attributes := #[] }, { accessFlags := 26, nameIndex := 1116, descriptorIndex := 1117, attributes := #[] }, { accessFlags := 24, nameIndex := 40, descriptorIndex := 26, attributes := #[] }, { accessFlags := 26, nameIndex := 1101, descriptorIndex := 1102, attributes := #[] }, { accessFlags := 26, nameIndex := 1121, descriptorIndex := 1122, attributes := #[] }, { accessFlags := 25, nameIndex := 599, descriptorIndex := 600, attributes := #[] }, { accessFlags := 24, nameIndex := 1125, descriptorIndex := 18, attributes := #[] }, { accessFlags := 24, nameIndex := 1127, descriptorIndex := 18, attributes := #[] }])
  fields := #[{ name := "value", type := (.array .byte), accessFlags := 18, slot := 0, constantValue := 0 }, { name := "coder", type := .byte, accessFlags := 18, slot := 1, constantValue := 0 }, { name := "hash", type := .int, accessFlags := 2, slot := 2, constantValue := 0 }, { name := "hashIsZero", type := .boolean, accessFlags := 2, slot := 3, constantValue := 0 }, { name := "serialVersionUID", type := .long, accessFlags := 26, slot := 0, constantValue := 0 }, { name := "COMPACT_STRINGS", type := .boolean, accessFlags := 24, slot := 1, constantValue := 0 }, { name := "serialPersistentFields", type := (.array (.object "java/io/ObjectStreamField")), accessFlags := 26, slot := 2, constantValue := 0 }, { name := "REPL", type := .char, accessFlags := 26, slot := 3, constantValue := 0 }, { name := "CASE_INSENSITIVE_ORDER", type := (.object "java/util/Comparator"), accessFlags := 25, slot := 4, constantValue := 0 }, { name := "LATIN1", type := .byte, accessFlags := 24, slot := 5, constantValue := 0 }, { name := "UTF16", type := .byte, accessFlags := 24, slot := 6, constantValue := 0 }]
  methods := #[k7m0, k7m1, k7m2, k7m3, k7m4]
  instanceTypes := #[(.array .byte), .byte, .int, .boolean]
  staticTypes := #[.long, .boolean, (.array (.object "java/io/ObjectStreamField")), .char, (.object "java/util/Comparator"), .byte, .byte]
  resolved := Array.replicate 1451 none
  statics := some 0 }

def pool8 : Array CpInfo := pool [(1, .methodref 2 3), (0, .class_ 4), (0, .nameAndType 5 6), (0, u "java/lang/Object"), (0, u "<init>"), (0, u "()V"), (0, .interfaceMethodref 8 9), (0, .class_ 10), (0, .nameAndType 11 12), (0, u "java/util/List"), (0, u "isEmpty"), (0, u "()Z"), (5, .nameAndType 5 19), (0, u "(Ljava/lang/String;)V"), (0, .string 21), (0, u "query"), (0, .methodref 23 24), (0, .class_ 25), (0, .nameAndType 26 27), (0, u "java/util/Objects"), (0, u "requireNonNull"), (0, u "(Ljava/lang/Object;Ljava/lang/String;)Ljava/lang/Object;"), (0, .class_ 29), (0, u "java/lang/String"), (0, .fieldref 31 32), (0, .class_ 33), (0, .nameAndType 21 34), (0, u "com/example/resolve_place/resolveplace/parser/ParsedQuery"), (0, u "Ljava/lang/String;"), (0, .string 36), (0, u "what"), (0, .fieldref 31 38), (0, .nameAndType 36 34), (0, .string 40), (0, u "whatType"), (0, .class_ 42), (0, u "com/example/resolve_place/resolveplace/parser/WhatType"), (0, .fieldref 31 44), (0, .nameAndType 40 45), (0, u "Lcom/example/resolve_place/resolveplace/parser/WhatType;"), (0, .string 47), (0, u "relation"), (0, .class_ 49), (0, u "com/example/resolve_place/resolveplace/parser/GeoRelation"), (0, .fieldref 31 51), (0, .nameAndType 47 52), (0, u "Lcom/example/resolve_place/resolveplace/parser/GeoRelation;"), (0, .interfaceMethodref 8 54), (0, .nameAndType 55 56), (0, u "copyOf"), (0, u "(Ljava/util/Collection;)Ljava/util/List;"), (0, .fieldref 31 58), (0, .nameAndType 59 60), (0, u "places"), (0, u "Ljava/util/List;"), (0, .string 62), (0, u ""), (0, .interfaceMethodref 8 64), (0, .nameAndType 65 66), (0, u "of"), (0, u "()Ljava/util/List;"), (0, .methodref 31 18), (8, u "(Ljava/lang/String;Ljava/lang/String;Lcom/example/resolve_place/resolveplace/parser/WhatType;Lcom/example/resolve_place/resolveplace/parser/GeoRelation;Ljava/util/List;)V"), (4, u "notLocal"), (0, u "(Ljava/lang/String;)Lcom/example/resolve_place/resolveplace/parser/ParsedQuery;"), (1, u "isLocal")] 6

def k8c0 : Code := { maxStack := 3, maxLocals := 6, code := prog_30_method_1_code, exceptionTable := #[], attributes := #[] }
def k8m0 : Method := { name := "<init>", desc := "(Ljava/lang/String;Ljava/lang/String;Lcom/example/resolve_place/resolveplace/parser/WhatType;Lcom/example/resolve_place/resolveplace/parser/GeoRelation;Ljava/util/List;)V", sig := { parameters := [(.object "java/lang/String"), (.object "java/lang/String"), (.object "com/example/resolve_place/resolveplace/parser/WhatType"), (.object "com/example/resolve_place/resolveplace/parser/GeoRelation"), (.object "java/util/List")], returnType := none }, accessFlags := 1, code := some k8c0 }
def k8c1 : Code := { maxStack := 3, maxLocals := 2, code := prog_30_method_2_code, exceptionTable := #[], attributes := #[] }
def k8m1 : Method := { name := "<init>", desc := "(Ljava/lang/String;)V", sig := { parameters := [(.object "java/lang/String")], returnType := none }, accessFlags := 2, code := some k8c1 }
def k8c2 : Code := { maxStack := 3, maxLocals := 1, code := prog_30_method_3_code, exceptionTable := #[], attributes := #[] }
def k8m2 : Method := { name := "notLocal", desc := "(Ljava/lang/String;)Lcom/example/resolve_place/resolveplace/parser/ParsedQuery;", sig := { parameters := [(.object "java/lang/String")], returnType := some (.object "com/example/resolve_place/resolveplace/parser/ParsedQuery") }, accessFlags := 9, code := some k8c2 }
def k8c3 : Code := { maxStack := 1, maxLocals := 1, code := prog_30_method_5_code, exceptionTable := #[], attributes := #[] }
def k8m3 : Method := { name := "isLocal", desc := "()Z", sig := { parameters := [], returnType := some .boolean }, accessFlags := 1, code := some k8c3 }
def k8c4 : Code := { maxStack := 1, maxLocals := 1, code := prog_30_method_9_code, exceptionTable := #[], attributes := #[] }
def k8m4 : Method := { name := "places", desc := "()Ljava/util/List;", sig := { parameters := [], returnType := some (.object "java/util/List") }, accessFlags := 1, code := some k8c4 }
/-- com/example/resolve_place/resolveplace/parser/ParsedQuery -/
def k8 : Class := { plain "com/example/resolve_place/resolveplace/parser/ParsedQuery" (some 0) with
  accessFlags := 49
  interfaces := #[]
  cf := some (fileOf pool8 31 #[] #[{ accessFlags := 1, nameIndex := 5, descriptorIndex := 76, attributes := #[] }, { accessFlags := 2, nameIndex := 5, descriptorIndex := 19, attributes := #[] }, { accessFlags := 9, nameIndex := 81, descriptorIndex := 82, attributes := #[] }, { accessFlags := 1, nameIndex := 84, descriptorIndex := 12, attributes := #[] }, { accessFlags := 1, nameIndex := 59, descriptorIndex := 66, attributes := #[] }] 49 2 #[] #[{ accessFlags := 18, nameIndex := 21, descriptorIndex := 34, attributes := #[] }, { accessFlags := 18, nameIndex := 36, descriptorIndex := 34, attributes := #[] }, { accessFlags := 18, nameIndex := 40, descriptorIndex := 45, attributes := #[] }, { accessFlags := 18, nameIndex := 47, descriptorIndex := 52, attributes := #[] }, { accessFlags := 18, nameIndex := 59, descriptorIndex := 60, attributes := #[] }])
  fields := #[{ name := "query", type := (.object "java/lang/String"), accessFlags := 18, slot := 0, constantValue := 0 }, { name := "what", type := (.object "java/lang/String"), accessFlags := 18, slot := 1, constantValue := 0 }, { name := "whatType", type := (.object "com/example/resolve_place/resolveplace/parser/WhatType"), accessFlags := 18, slot := 2, constantValue := 0 }, { name := "relation", type := (.object "com/example/resolve_place/resolveplace/parser/GeoRelation"), accessFlags := 18, slot := 3, constantValue := 0 }, { name := "places", type := (.object "java/util/List"), accessFlags := 18, slot := 4, constantValue := 0 }]
  methods := #[k8m0, k8m1, k8m2, k8m3, k8m4]
  instanceTypes := #[(.object "java/lang/String"), (.object "java/lang/String"), (.object "com/example/resolve_place/resolveplace/parser/WhatType"), (.object "com/example/resolve_place/resolveplace/parser/GeoRelation"), (.object "java/util/List")]
  staticTypes := #[]
  resolved := Array.replicate 91 none
  statics := none }

def pool9 : Array CpInfo := pool [(2, .class_ 4), (1, u "java/lang/Object"), (0, u "<init>"), (0, u "()V"), (35, .class_ 44), (1, u "java/util/Objects"), (0, u "requireNonNull"), (0, u "(Ljava/lang/Object;)Ljava/lang/Object;"), (47, u "(Ljava/lang/Object;Ljava/lang/String;)Ljava/lang/Object;")] 89

def k9m0 : Method := { name := "<init>", desc := "()V", sig := { parameters := [], returnType := none }, accessFlags := 2, code := none }
def k9c1 : Code := { maxStack := 2, maxLocals := 1, code := jdk_31_method_10_code, exceptionTable := #[], attributes := #[] }
def k9m1 : Method := { name := "requireNonNull", desc := "(Ljava/lang/Object;)Ljava/lang/Object;", sig := { parameters := [(.object "java/lang/Object")], returnType := some (.object "java/lang/Object") }, accessFlags := 9, code := some k9c1 }
def k9c2 : Code := { maxStack := 3, maxLocals := 2, code := jdk_31_method_11_code, exceptionTable := #[], attributes := #[] }
def k9m2 : Method := { name := "requireNonNull", desc := "(Ljava/lang/Object;Ljava/lang/String;)Ljava/lang/Object;", sig := { parameters := [(.object "java/lang/Object"), (.object "java/lang/String")], returnType := some (.object "java/lang/Object") }, accessFlags := 9, code := some k9c2 }
/-- java/util/Objects -/
def k9 : Class := { plain "java/util/Objects" (some 0) with
  accessFlags := 49
  interfaces := #[]
  cf := some (fileOf pool9 42 #[] #[{ accessFlags := 2, nameIndex := 5, descriptorIndex := 6, attributes := #[] }, { accessFlags := 9, nameIndex := 45, descriptorIndex := 46, attributes := #[] }, { accessFlags := 9, nameIndex := 45, descriptorIndex := 94, attributes := #[] }] 49 2 #[] #[])
  fields := #[]
  methods := #[k9m0, k9m1, k9m2]
  instanceTypes := #[]
  staticTypes := #[]
  resolved := Array.replicate 184 none
  statics := none }

def pool10 : Array CpInfo := pool [(8, .class_ 10), (1, u "java/lang/Iterable"), (24, .class_ 36), (0, u "java/lang/Object")] 25

/-- java/lang/Iterable -/
def k10 : Class := { plain "java/lang/Iterable" (some 0) with
  accessFlags := 1537
  interfaces := #[]
  cf := some (fileOf pool10 8 #[] #[] 1537 35 #[] #[])
  fields := #[]
  methods := #[]
  instanceTypes := #[]
  staticTypes := #[]
  resolved := Array.replicate 62 none
  statics := none }

def pool11 : Array CpInfo := pool [(10, .class_ 12), (1, u "java/util/Collection"), (0, u "toArray"), (16, u "()Z"), (29, .class_ 61), (0, u "java/lang/Object"), (0, .class_ 63), (0, u "java/lang/Iterable"), (2, u "isEmpty"), (3, u "()[Ljava/lang/Object;")] 44

def k11m0 : Method := { name := "isEmpty", desc := "()Z", sig := { parameters := [], returnType := some .boolean }, accessFlags := 1025, code := none }
def k11m1 : Method := { name := "toArray", desc := "()[Ljava/lang/Object;", sig := { parameters := [], returnType := some (.array (.object "java/lang/Object")) }, accessFlags := 1025, code := none }
/-- java/util/Collection -/
def k11 : Class := { plain "java/util/Collection" (some 0) with
  accessFlags := 1537
  interfaces := #[10]
  cf := some (fileOf pool11 10 #[] #[{ accessFlags := 1025, nameIndex := 66, descriptorIndex := 30, attributes := #[] }, { accessFlags := 1025, nameIndex := 13, descriptorIndex := 70, attributes := #[] }] 1537 60 #[62] #[])
  fields := #[]
  methods := #[k11m0, k11m1]
  instanceTypes := #[]
  staticTypes := #[]
  resolved := Array.replicate 115 none
  statics := none }

def pool12 : Array CpInfo := pool [(8, .class_ 10), (1, u "java/util/SequencedCollection"), (15, .class_ 27), (0, u "java/lang/Object"), (0, .class_ 29), (0, u "java/util/Collection")] 27

/-- java/util/SequencedCollection -/
def k12 : Class := { plain "java/util/SequencedCollection" (some 0) with
  accessFlags := 1537
  interfaces := #[11]
  cf := some (fileOf pool12 8 #[] #[] 1537 26 #[28] #[])
  fields := #[]
  methods := #[]
  instanceTypes := #[]
  staticTypes := #[]
  resolved := Array.replicate 57 none
  statics := none }

def pool13 : Array CpInfo := pool [(8, .class_ 10), (1, u "java/util/List"), (7, u "()Z"), (12, u "(Ljava/lang/Object;)V"), (16, u "<init>"), (18, u "isEmpty"), (11, u "size"), (0, u "()I"), (7, u "of"), (1, .fieldref 91 92), (0, .class_ 93), (0, .nameAndType 94 95), (0, u "java/util/ImmutableCollections"), (0, u "EMPTY_LIST"), (0, u "Ljava/util/ImmutableCollections$ListN;"), (0, .class_ 97), (0, u "java/util/ImmutableCollections$List12"), (0, .methodref 96 99), (0, .nameAndType 48 31), (0, .methodref 96 101), (0, .nameAndType 48 102), (0, u "(Ljava/lang/Object;Ljava/lang/Object;)V"), (0, .class_ 104), (0, u "java/lang/Object"), (3, u "([Ljava/lang/Object;)Ljava/util/List;"), (0, .methodref 91 110), (0, .nameAndType 111 108), (0, u "listFromArray"), (0, .methodref 91 113), (0, .nameAndType 114 115), (0, u "listCopy"), (0, u "(Ljava/util/Collection;)Ljava/util/List;"), (3, u "()Ljava/util/List;"), (0, .class_ 121), (0, u "java/util/SequencedCollection"), (112, u "copyOf")] 16

def k13m0 : Method := { name := "size", desc := "()I", sig := { parameters := [], returnType := some .int }, accessFlags := 1025, code := none }
def k13m1 : Method := { name := "isEmpty", desc := "()Z", sig := { parameters := [], returnType := some .boolean }, accessFlags := 1025, code := none }
def k13c2 : Code := { maxStack := 1, maxLocals := 0, code := jdk_40_method_36_code, exceptionTable := #[], attributes := #[] }
def k13m2 : Method := { name := "of", desc := "()Ljava/util/List;", sig := { parameters := [], returnType := some (.object "java/util/List") }, accessFlags := 9, code := some k13c2 }
def k13c3 : Code := { maxStack := 5, maxLocals := 2, code := jdk_40_method_47_code, exceptionTable := #[], attributes := #[] }
def k13m3 : Method := { name := "of", desc := "([Ljava/lang/Object;)Ljava/util/List;", sig := { parameters := [(.array (.object "java/lang/Object"))], returnType := some (.object "java/util/List") }, accessFlags := 137, code := some k13c3 }
def k13c4 : Code := { maxStack := 1, maxLocals := 1, code := jdk_40_method_48_code, exceptionTable := #[], attributes := #[] }
def k13m4 : Method := { name := "copyOf", desc := "(Ljava/util/Collection;)Ljava/util/List;", sig := { parameters := [(.object "java/util/Collection")], returnType := some (.object "java/util/List") }, accessFlags := 9, code := some k13c4 }
/-- java/util/List -/
def k13 : Class := { plain "java/util/List" (some 0) with
  accessFlags := 1537
  interfaces := #[12]
  cf := some (fileOf pool13 8 #[] #[{ accessFlags := 1025, nameIndex := 79, descriptorIndex := 80, attributes := #[] }, { accessFlags := 1025, nameIndex := 67, descriptorIndex := 18, attributes := #[] }, { accessFlags := 9, nameIndex := 88, descriptorIndex := 119, attributes := #[] }, { accessFlags := 137, nameIndex := 88, descriptorIndex := 108, attributes := #[] }, { accessFlags := 9, nameIndex := 234, descriptorIndex := 115, attributes := #[] }] 1537 103 #[120] #[])
  fields := #[]
  methods := #[k13m0, k13m1, k13m2, k13m3, k13m4]
  instanceTypes := #[]
  staticTypes := #[]
  resolved := Array.replicate 251 none
  statics := none }

def pool14 : Array CpInfo := pool [(2, .class_ 4), (1, u "java/lang/Object"), (0, u "<init>"), (0, u "()V"), (3, .class_ 11), (0, u "java/util/ImmutableCollections$List12"), (0, .class_ 13), (0, u "java/util/ImmutableCollections$ListN"), (3, u "Z"), (0, .class_ 19), (0, u "java/util/List"), (0, .interfaceMethodref 21 22), (0, .class_ 23), (0, .nameAndType 24 25), (0, u "java/util/Collection"), (0, u "isEmpty"), (0, u "()Z"), (2, u "of"), (1, .interfaceMethodref 21 31), (0, .nameAndType 32 33), (0, u "toArray"), (0, u "()[Ljava/lang/Object;"), (0, .interfaceMethodref 18 35), (0, .nameAndType 28 36), (0, u "([Ljava/lang/Object;)Ljava/util/List;"), (0, .methodref 38 39), (0, .class_ 40), (0, .nameAndType 41 42), (0, u "java/util/Objects"), (0, u "requireNonNull"), (0, u "(Ljava/lang/Object;)Ljava/lang/Object;"), (0, .methodref 12 44), (0, .nameAndType 5 45), (0, u "([Ljava/lang/Object;Z)V"), (1, .class_ 49), (1, u "java/util/ImmutableCollections"), (0, u "$assertionsDisabled"), (5, u "[Ljava/lang/Object;"), (5, u "EMPTY_LIST"), (0, u "Ljava/util/ImmutableCollections$ListN;"), (8, u "EMPTY_LIST_NULLS"), (22, u "SALT32L"), (0, u "J"), (2, u "REVERSE"), (6, u "archivedObjects"), (2, u "EMPTY"), (0, u "Ljava/lang/Object;"), (0, .class_ 112), (0, u "java/util/ImmutableCollections$SetN"), (5, u "EMPTY_SET"), (0, u "Ljava/util/ImmutableCollections$SetN;"), (0, .class_ 121), (0, u "java/util/ImmutableCollections$MapN"), (3, u "EMPTY_MAP"), (0, u "Ljava/util/ImmutableCollections$MapN;"), (4, u "EXPAND_FACTOR"), (0, u "I"), (9, u "listCopy"), (0, u "(Ljava/util/Collection;)Ljava/util/List;"), (7, u "listFromArray"), (17, .class_ 170), (0, u "java/util/ImmutableCollections$MapN$MapNIterator"), (0, .class_ 172), (0, u "java/util/ImmutableCollections$MapN$1"), (0, .class_ 174), (0, u "java/util/ImmutableCollections$Map1"), (0, .class_ 176), (0, u "java/util/ImmutableCollections$AbstractImmutableMap"), (0, .class_ 178), (0, u "java/util/ImmutableCollections$SetN$SetNIterator"), (0, .class_ 180), (0, u "java/util/ImmutableCollections$Set12"), (0, .class_ 182), (0, u "java/util/ImmutableCollections$Set12$1"), (0, .class_ 184), (0, u "java/util/ImmutableCollections$AbstractImmutableSet"), (0, .class_ 186), (0, u "java/util/ImmutableCollections$SubList"), (0, .class_ 188), (0, u "java/util/ImmutableCollections$ListItr"), (0, .class_ 190), (0, u "java/util/ImmutableCollections$AbstractImmutableList"), (0, .class_ 192), (0, u "java/util/ImmutableCollections$AbstractImmutableCollection"), (0, .class_ 194), (0, u "java/util/ImmutableCollections$Access"), (0, .class_ 196), (0, u "java/util/ImmutableCollections$Access$1")] 16

def k14m0 : Method := { name := "<init>", desc := "()V", sig := { parameters := [], returnType := none }, accessFlags := 2, code := none }
def k14c1 : Code := { maxStack := 1, maxLocals := 2, code := jdk_56_method_3_code, exceptionTable := #[], attributes := #[] }
def k14m1 : Method := { name := "listCopy", desc := "(Ljava/util/Collection;)Ljava/util/List;", sig := { parameters := [(.object "java/util/Collection")], returnType := some (.object "java/util/List") }, accessFlags := 8, code := some k14c1 }
def k14c2 : Code := { maxStack := 4, maxLocals := 3, code := jdk_56_method_4_code, exceptionTable := #[], attributes := #[] }
def k14m2 : Method := { name := "listFromArray", desc := "([Ljava/lang/Object;)Ljava/util/List;", sig := { parameters := [(.array (.object "java/lang/Object"))], returnType := some (.object "java/util/List") }, accessFlags := 136, code := some k14c2 }
/-- java/util/ImmutableCollections -/
def k14 : Class := { plain "java/util/ImmutableCollections" (some 0) with
  accessFlags := 32
  interfaces := #[]
  cf := some (fileOf pool14 47 #[.nestMembers #[120, 169, 171, 173, 175, 111, 177, 179, 181, 183, 12, 10, 185, 187, 189, 191, 193, 195]] #[{ accessFlags := 2, nameIndex := 5, descriptorIndex := 6, attributes := #[] }, { accessFlags := 8, nameIndex := 142, descriptorIndex := 143, attributes := #[] }, { accessFlags := 136, nameIndex := 151, descriptorIndex := 36, attributes := #[] }] 32 2 #[] #[{ accessFlags := 26, nameIndex := 95, descriptorIndex := 96, attributes := #[] }, { accessFlags := 26, nameIndex := 99, descriptorIndex := 17, attributes := #[] }, { accessFlags := 10, nameIndex := 106, descriptorIndex := 56, attributes := #[] }, { accessFlags := 26, nameIndex := 109, descriptorIndex := 110, attributes := #[] }, { accessFlags := 24, nameIndex := 62, descriptorIndex := 63, attributes := #[] }, { accessFlags := 24, nameIndex := 72, descriptorIndex := 63, attributes := #[] }, { accessFlags := 24, nameIndex := 118, descriptorIndex := 119, attributes := #[] }, { accessFlags := 24, nameIndex := 125, descriptorIndex := 126, attributes := #[] }, { accessFlags := 24, nameIndex := 131, descriptorIndex := 132, attributes := #[] }, { accessFlags := 4120, nameIndex := 50, descriptorIndex := 17, attributes := #[] }])
  fields := #[{ name := "SALT32L", type := .long, accessFlags := 26, slot := 0, constantValue := 0 }, { name := "REVERSE", type := .boolean, accessFlags := 26, slot := 1, constantValue := 0 }, { name := "archivedObjects", type := (.array (.object "java/lang/Object")), accessFlags := 10, slot := 2, constantValue := 0 }, { name := "EMPTY", type := (.object "java/lang/Object"), accessFlags := 26, slot := 3, constantValue := 0 }, { name := "EMPTY_LIST", type := (.object "java/util/ImmutableCollections$ListN"), accessFlags := 24, slot := 4, constantValue := 0 }, { name := "EMPTY_LIST_NULLS", type := (.object "java/util/ImmutableCollections$ListN"), accessFlags := 24, slot := 5, constantValue := 0 }, { name := "EMPTY_SET", type := (.object "java/util/ImmutableCollections$SetN"), accessFlags := 24, slot := 6, constantValue := 0 }, { name := "EMPTY_MAP", type := (.object "java/util/ImmutableCollections$MapN"), accessFlags := 24, slot := 7, constantValue := 0 }, { name := "EXPAND_FACTOR", type := .int, accessFlags := 24, slot := 8, constantValue := 0 }, { name := "$assertionsDisabled", type := .boolean, accessFlags := 4120, slot := 9, constantValue := 0 }]
  methods := #[k14m0, k14m1, k14m2]
  instanceTypes := #[]
  staticTypes := #[.long, .boolean, (.array (.object "java/lang/Object")), (.object "java/lang/Object"), (.object "java/util/ImmutableCollections$ListN"), (.object "java/util/ImmutableCollections$ListN"), (.object "java/util/ImmutableCollections$SetN"), (.object "java/util/ImmutableCollections$MapN"), .int, .boolean]
  resolved := Array.replicate 213 none
  statics := some 1 }

def pool15 : Array CpInfo := pool [(1, .methodref 2 3), (0, .class_ 4), (0, .nameAndType 5 6), (0, u "java/lang/Object"), (0, u "<init>"), (0, u "()V"), (1, .class_ 10), (1, u "java/util/AbstractCollection"), (66, .class_ 78), (0, u "java/util/Collection")] 81

def k15c0 : Code := { maxStack := 1, maxLocals := 1, code := jdk_22_method_1_code, exceptionTable := #[], attributes := #[] }
def k15m0 : Method := { name := "<init>", desc := "()V", sig := { parameters := [], returnType := none }, accessFlags := 4, code := some k15c0 }
/-- java/util/AbstractCollection -/
def k15 : Class := { plain "java/util/AbstractCollection" (some 0) with
  accessFlags := 1057
  interfaces := #[11]
  cf := some (fileOf pool15 8 #[] #[{ accessFlags := 4, nameIndex := 5, descriptorIndex := 6, attributes := #[] }] 1057 2 #[77] #[])
  fields := #[]
  methods := #[k15m0]
  instanceTypes := #[]
  staticTypes := #[]
  resolved := Array.replicate 160 none
  statics := none }

def pool16 : Array CpInfo := pool [(1, .methodref 2 3), (0, .class_ 4), (0, .nameAndType 5 6), (0, u "java/util/AbstractCollection"), (0, u "<init>"), (0, u "()V"), (1, .class_ 10), (1, u "java/util/ImmutableCollections"), (2, .class_ 14), (0, u "java/util/ImmutableCollections$AbstractImmutableCollection")] 41

def k16c0 : Code := { maxStack := 1, maxLocals := 1, code := jdk_47_method_1_code, exceptionTable := #[], attributes := #[] }
def k16m0 : Method := { name := "<init>", desc := "()V", sig := { parameters := [], returnType := none }, accessFlags := 0, code := some k16c0 }
/-- java/util/ImmutableCollections$AbstractImmutableCollection -/
def k16 : Class := { plain "java/util/ImmutableCollections$AbstractImmutableCollection" (some 15) with
  accessFlags := 1056
  interfaces := #[]
  cf := some (fileOf pool16 13 #[.nestHost 8] #[{ accessFlags := 0, nameIndex := 5, descriptorIndex := 6, attributes := #[] }] 1056 2 #[] #[])
  fields := #[]
  methods := #[k16m0]
  instanceTypes := #[]
  staticTypes := #[]
  resolved := Array.replicate 56 none
  statics := none }

def pool17 : Array CpInfo := pool [(1, .class_ 2), (0, u "java/util/RandomAccess"), (0, .class_ 4), (0, u "java/lang/Object")] 2

/-- java/util/RandomAccess -/
def k17 : Class := { plain "java/util/RandomAccess" (some 0) with
  accessFlags := 1537
  interfaces := #[]
  cf := some (fileOf pool17 1 #[] #[] 1537 3 #[] #[])
  fields := #[]
  methods := #[]
  instanceTypes := #[]
  staticTypes := #[]
  resolved := Array.replicate 7 none
  statics := none }

def pool18 : Array CpInfo := pool [(1, .methodref 2 3), (0, .class_ 4), (0, .nameAndType 5 6), (0, u "java/util/ImmutableCollections$AbstractImmutableCollection"), (0, u "<init>"), (0, u "()V"), (1, .class_ 10), (1, u "java/util/ImmutableCollections"), (3, .class_ 16), (1, u "java/util/ImmutableCollections$AbstractImmutableList"), (60, .class_ 78), (0, u "java/util/List"), (45, .class_ 125), (0, u "java/util/RandomAccess")] 70

def k18c0 : Code := { maxStack := 1, maxLocals := 1, code := jdk_46_method_1_code, exceptionTable := #[], attributes := #[] }
def k18m0 : Method := { name := "<init>", desc := "()V", sig := { parameters := [], returnType := none }, accessFlags := 0, code := some k18c0 }
/-- java/util/ImmutableCollections$AbstractImmutableList -/
def k18 : Class := { plain "java/util/ImmutableCollections$AbstractImmutableList" (some 16) with
  accessFlags := 1056
  interfaces := #[13, 17]
  cf := some (fileOf pool18 14 #[.nestHost 8] #[{ accessFlags := 0, nameIndex := 5, descriptorIndex := 6, attributes := #[] }] 1056 2 #[77, 124] #[])
  fields := #[]
  methods := #[k18m0]
  instanceTypes := #[]
  staticTypes := #[]
  resolved := Array.replicate 196 none
  statics := none }

def pool19 : Array CpInfo := pool [(1, .methodref 2 3), (0, .class_ 4), (0, .nameAndType 5 6), (0, u "java/util/ImmutableCollections$AbstractImmutableList"), (0, u "<init>"), (0, u "()V"), (0, .fieldref 8 9), (0, .class_ 10), (0, .nameAndType 11 12), (0, u "java/util/ImmutableCollections$ListN"), (0, u "elements"), (0, u "[Ljava/lang/Object;"), (0, .fieldref 8 14), (0, .nameAndType 15 16), (0, u "allowNulls"), (0, u "Z"), (42, .class_ 60), (0, u "java/io/Serializable"), (4, u "([Ljava/lang/Object;Z)V"), (8, u "isEmpty"), (0, u "()Z"), (1, u "size"), (0, u "()I"), (35, .class_ 115), (0, u "java/util/ImmutableCollections")] 3

def k19c0 : Code := { maxStack := 2, maxLocals := 3, code := jdk_45_method_1_code, exceptionTable := #[], attributes := #[] }
def k19m0 : Method := { name := "<init>", desc := "([Ljava/lang/Object;Z)V", sig := { parameters := [(.array (.object "java/lang/Object")), .boolean], returnType := none }, accessFlags := 2, code := some k19c0 }
def k19c1 : Code := { maxStack := 1, maxLocals := 1, code := jdk_45_method_2_code, exceptionTable := #[], attributes := #[] }
def k19m1 : Method := { name := "isEmpty", desc := "()Z", sig := { parameters := [], returnType := some .boolean }, accessFlags := 1, code := some k19c1 }
def k19c2 : Code := { maxStack := 1, maxLocals := 1, code := jdk_45_method_3_code, exceptionTable := #[], attributes := #[] }
def k19m2 : Method := { name := "size", desc := "()I", sig := { parameters := [], returnType := some .int }, accessFlags := 1, code := some k19c2 }
/-- java/util/ImmutableCollections$ListN -/
def k19 : Class := { plain "java/util/ImmutableCollections$ListN" (some 18) with
  accessFlags := 48
  interfaces := #[2]
  cf := some (fileOf pool19 8 #[.nestHost 114] #[{ accessFlags := 2, nameIndex := 5, descriptorIndex := 65, attributes := #[] }, { accessFlags := 1, nameIndex := 74, descriptorIndex := 75, attributes := #[] }, { accessFlags := 1, nameIndex := 77, descriptorIndex := 78, attributes := #[] }] 48 2 #[59] #[{ accessFlags := 18, nameIndex := 11, descriptorIndex := 12, attributes := #[] }, { accessFlags := 18, nameIndex := 15, descriptorIndex := 16, attributes := #[] }])
  fields := #[{ name := "elements", type := (.array (.object "java/lang/Object")), accessFlags := 18, slot := 0, constantValue := 0 }, { name := "allowNulls", type := .boolean, accessFlags := 18, slot := 1, constantValue := 0 }]
  methods := #[k19m0, k19m1, k19m2]
  instanceTypes := #[(.array (.object "java/lang/Object")), .boolean]
  staticTypes := #[]
  resolved := Array.replicate 119 none
  statics := none }

def pool20 : Array CpInfo := pool [(2, .class_ 4), (1, u "java/lang/Enum"), (0, u "name"), (0, u "Ljava/lang/String;"), (2, u "ordinal"), (0, u "I"), (1, .class_ 14), (1, u "java/lang/Object"), (4, u "hash"), (86, .class_ 108), (1, u "java/lang/Enum$EnumDesc"), (2, .class_ 112), (0, u "java/lang/constant/Constable"), (0, .class_ 114), (0, u "java/lang/Comparable"), (0, .class_ 116), (0, u "java/io/Serializable")] 87

/-- java/lang/Enum -/
def k20 : Class := { plain "java/lang/Enum" (some 0) with
  accessFlags := 1057
  interfaces := #[5, 3, 2]
  cf := some (fileOf pool20 2 #[.nestMembers #[106]] #[] 1057 12 #[111, 113, 115] #[{ accessFlags := 18, nameIndex := 5, descriptorIndex := 6, attributes := #[] }, { accessFlags := 18, nameIndex := 9, descriptorIndex := 10, attributes := #[] }, { accessFlags := 2, nameIndex := 19, descriptorIndex := 10, attributes := #[] }])
  fields := #[{ name := "name", type := (.object "java/lang/String"), accessFlags := 18, slot := 0, constantValue := 0 }, { name := "ordinal", type := .int, accessFlags := 18, slot := 1, constantValue := 0 }, { name := "hash", type := .int, accessFlags := 2, slot := 2, constantValue := 0 }]
  methods := #[]
  instanceTypes := #[(.object "java/lang/String"), .int, .int]
  staticTypes := #[]
  resolved := Array.replicate 204 none
  statics := none }

def pool21 : Array CpInfo := pool [(1, .class_ 2), (0, u "com/example/resolve_place/resolveplace/parser/WhatType"), (2, u "MAP"), (0, u "Lcom/example/resolve_place/resolveplace/parser/WhatType;"), (2, u "YELLOW_PAGE"), (2, u "INFORMATION"), (2, u "$VALUES"), (0, u "[Lcom/example/resolve_place/resolveplace/parser/WhatType;"), (6, .class_ 25), (1, u "java/lang/Enum"), (8, u "label"), (0, u "Ljava/lang/String;")] 29

/-- com/example/resolve_place/resolveplace/parser/WhatType -/
def k21 : Class := { plain "com/example/resolve_place/resolveplace/parser/WhatType" (some 20) with
  accessFlags := 16433
  interfaces := #[]
  cf := some (fileOf pool21 1 #[] #[] 16433 23 #[] #[{ accessFlags := 16409, nameIndex := 5, descriptorIndex := 6, attributes := #[] }, { accessFlags := 16409, nameIndex := 9, descriptorIndex := 6, attributes := #[] }, { accessFlags := 16409, nameIndex := 12, descriptorIndex := 6, attributes := #[] }, { accessFlags := 18, nameIndex := 34, descriptorIndex := 35, attributes := #[] }, { accessFlags := 4122, nameIndex := 15, descriptorIndex := 16, attributes := #[] }])
  fields := #[{ name := "MAP", type := (.object "com/example/resolve_place/resolveplace/parser/WhatType"), accessFlags := 16409, slot := 0, constantValue := 0 }, { name := "YELLOW_PAGE", type := (.object "com/example/resolve_place/resolveplace/parser/WhatType"), accessFlags := 16409, slot := 1, constantValue := 0 }, { name := "INFORMATION", type := (.object "com/example/resolve_place/resolveplace/parser/WhatType"), accessFlags := 16409, slot := 2, constantValue := 0 }, { name := "label", type := (.object "java/lang/String"), accessFlags := 18, slot := 3, constantValue := 0 }, { name := "$VALUES", type := (.array (.object "com/example/resolve_place/resolveplace/parser/WhatType")), accessFlags := 4122, slot := 3, constantValue := 0 }]
  methods := #[]
  instanceTypes := #[(.object "java/lang/String"), .int, .int, (.object "java/lang/String")]
  staticTypes := #[(.object "com/example/resolve_place/resolveplace/parser/WhatType"), (.object "com/example/resolve_place/resolveplace/parser/WhatType"), (.object "com/example/resolve_place/resolveplace/parser/WhatType"), (.array (.object "com/example/resolve_place/resolveplace/parser/WhatType"))]
  resolved := Array.replicate 65 none
  statics := some 2 }

def pool22 : Array CpInfo := pool [(1, .class_ 2), (0, u "com/example/resolve_place/resolveplace/parser/GeoRelation"), (2, u "IN"), (0, u "Lcom/example/resolve_place/resolveplace/parser/GeoRelation;"), (2, u "NEAR"), (2, u "NORTH_OF"), (2, u "SOUTH_OF"), (2, u "EAST_OF"), (2, u "WEST_OF"), (2, u "NORTH_EAST_OF"), (2, u "NORTH_WEST_OF"), (2, u "SOUTH_EAST_OF"), (2, u "SOUTH_WEST_OF"), (2, u "DEFINITION"), (2, u "UNDEFINED"), (2, u "$VALUES"), (0, u "[Lcom/example/resolve_place/resolveplace/parser/GeoRelation;"), (6, .class_ 52), (1, u "java/lang/Enum")] 34

/-- com/example/resolve_place/resolveplace/parser/GeoRelation -/
def k22 : Class := { plain "com/example/resolve_place/resolveplace/parser/GeoRelation" (some 20) with
  accessFlags := 16433
  interfaces := #[]
  cf := some (fileOf pool22 1 #[] #[] 16433 50 #[] #[{ accessFlags := 16409, nameIndex := 5, descriptorIndex := 6, attributes := #[] }, { accessFlags := 16409, nameIndex := 9, descriptorIndex := 6, attributes := #[] }, { accessFlags := 16409, nameIndex := 12, descriptorIndex := 6, attributes := #[] }, { accessFlags := 16409, nameIndex := 15, descriptorIndex := 6, attributes := #[] }, { accessFlags := 16409, nameIndex := 18, descriptorIndex := 6, attributes := #[] }, { accessFlags := 16409, nameIndex := 21, descriptorIndex := 6, attributes := #[] }, { accessFlags := 16409, nameIndex := 24, descriptorIndex := 6, attributes := #[] }, { accessFlags := 16409, nameIndex := 27, descriptorIndex := 6, attributes := #[] }, { accessFlags := 16409, nameIndex := 30, descriptorIndex := 6, attributes := #[] }, { accessFlags := 16409, nameIndex := 33, descriptorIndex := 6, attributes := #[] }, { accessFlags := 16409, nameIndex := 36, descriptorIndex := 6, attributes := #[] }, { accessFlags := 16409, nameIndex := 39, descriptorIndex := 6, attributes := #[] }, { accessFlags := 4122, nameIndex := 42, descriptorIndex := 43, attributes := #[] }])
  fields := #[{ name := "IN", type := (.object "com/example/resolve_place/resolveplace/parser/GeoRelation"), accessFlags := 16409, slot := 0, constantValue := 0 }, { name := "NEAR", type := (.object "com/example/resolve_place/resolveplace/parser/GeoRelation"), accessFlags := 16409, slot := 1, constantValue := 0 }, { name := "NORTH_OF", type := (.object "com/example/resolve_place/resolveplace/parser/GeoRelation"), accessFlags := 16409, slot := 2, constantValue := 0 }, { name := "SOUTH_OF", type := (.object "com/example/resolve_place/resolveplace/parser/GeoRelation"), accessFlags := 16409, slot := 3, constantValue := 0 }, { name := "EAST_OF", type := (.object "com/example/resolve_place/resolveplace/parser/GeoRelation"), accessFlags := 16409, slot := 4, constantValue := 0 }, { name := "WEST_OF", type := (.object "com/example/resolve_place/resolveplace/parser/GeoRelation"), accessFlags := 16409, slot := 5, constantValue := 0 }, { name := "NORTH_EAST_OF", type := (.object "com/example/resolve_place/resolveplace/parser/GeoRelation"), accessFlags := 16409, slot := 6, constantValue := 0 }, { name := "NORTH_WEST_OF", type := (.object "com/example/resolve_place/resolveplace/parser/GeoRelation"), accessFlags := 16409, slot := 7, constantValue := 0 }, { name := "SOUTH_EAST_OF", type := (.object "com/example/resolve_place/resolveplace/parser/GeoRelation"), accessFlags := 16409, slot := 8, constantValue := 0 }, { name := "SOUTH_WEST_OF", type := (.object "com/example/resolve_place/resolveplace/parser/GeoRelation"), accessFlags := 16409, slot := 9, constantValue := 0 }, { name := "DEFINITION", type := (.object "com/example/resolve_place/resolveplace/parser/GeoRelation"), accessFlags := 16409, slot := 10, constantValue := 0 }, { name := "UNDEFINED", type := (.object "com/example/resolve_place/resolveplace/parser/GeoRelation"), accessFlags := 16409, slot := 11, constantValue := 0 }, { name := "$VALUES", type := (.array (.object "com/example/resolve_place/resolveplace/parser/GeoRelation")), accessFlags := 4122, slot := 12, constantValue := 0 }]
  methods := #[]
  instanceTypes := #[(.object "java/lang/String"), .int, .int]
  staticTypes := #[(.object "com/example/resolve_place/resolveplace/parser/GeoRelation"), (.object "com/example/resolve_place/resolveplace/parser/GeoRelation"), (.object "com/example/resolve_place/resolveplace/parser/GeoRelation"), (.object "com/example/resolve_place/resolveplace/parser/GeoRelation"), (.object "com/example/resolve_place/resolveplace/parser/GeoRelation"), (.object "com/example/resolve_place/resolveplace/parser/GeoRelation"), (.object "com/example/resolve_place/resolveplace/parser/GeoRelation"), (.object "com/example/resolve_place/resolveplace/parser/GeoRelation"), (.object "com/example/resolve_place/resolveplace/parser/GeoRelation"), (.object "com/example/resolve_place/resolveplace/parser/GeoRelation"), (.object "com/example/resolve_place/resolveplace/parser/GeoRelation"), (.object "com/example/resolve_place/resolveplace/parser/GeoRelation"), (.array (.object "com/example/resolve_place/resolveplace/parser/GeoRelation"))]
  resolved := Array.replicate 87 none
  statics := some 3 }

def pool23 : Array CpInfo := pool [(1, .methodref 2 3), (0, .class_ 4), (0, .nameAndType 5 6), (0, u "java/util/AbstractCollection"), (0, u "<init>"), (0, u "()V"), (0, .fieldref 8 9), (0, .class_ 10), (0, .nameAndType 11 12), (0, u "java/util/AbstractList"), (0, u "modCount"), (0, u "I"), (64, .class_ 78), (0, u "java/util/AbstractList$Itr"), (3, .class_ 83), (0, u "java/util/AbstractList$ListItr"), (9, .class_ 94), (0, u "java/util/AbstractList$RandomAccessSubList"), (3, .class_ 99), (0, u "java/util/AbstractList$SubList"), (33, .class_ 134), (0, u "java/util/List"), (73, .class_ 209), (0, u "java/util/AbstractList$SubList$1"), (0, .class_ 211), (0, u "java/util/AbstractList$RandomAccessSpliterator")] 6

def k23c0 : Code := { maxStack := 2, maxLocals := 1, code := jdk_39_method_1_code, exceptionTable := #[], attributes := #[] }
def k23m0 : Method := { name := "<init>", desc := "()V", sig := { parameters := [], returnType := none }, accessFlags := 4, code := some k23c0 }
/-- java/util/AbstractList -/
def k23 : Class := { plain "java/util/AbstractList" (some 15) with
  accessFlags := 1057
  interfaces := #[13]
  cf := some (fileOf pool23 8 #[.nestMembers #[93, 98, 208, 210, 82, 77]] #[{ accessFlags := 4, nameIndex := 5, descriptorIndex := 6, attributes := #[] }] 1057 2 #[133] #[{ accessFlags := 132, nameIndex := 11, descriptorIndex := 12, attributes := #[] }])
  fields := #[{ name := "modCount", type := .int, accessFlags := 132, slot := 0, constantValue := 0 }]
  methods := #[k23m0]
  instanceTypes := #[.int]
  staticTypes := #[]
  resolved := Array.replicate 218 none
  statics := none }

def pool24 : Array CpInfo := pool [(1, .class_ 2), (0, u "java/lang/Cloneable"), (0, .class_ 4), (0, u "java/lang/Object")] 2

/-- java/lang/Cloneable -/
def k24 : Class := { plain "java/lang/Cloneable" (some 0) with
  accessFlags := 1537
  interfaces := #[]
  cf := some (fileOf pool24 1 #[] #[] 1537 3 #[] #[])
  fields := #[]
  methods := #[]
  instanceTypes := #[]
  staticTypes := #[]
  resolved := Array.replicate 7 none
  statics := none }

def pool25 : Array CpInfo := pool [(1, .methodref 2 3), (0, .class_ 4), (0, .nameAndType 5 6), (0, u "java/util/AbstractList"), (0, u "<init>"), (0, u "()V"), (0, .class_ 8), (0, u "java/lang/Object"), (0, .fieldref 10 11), (0, .class_ 12), (0, .nameAndType 13 14), (0, u "java/util/ArrayList"), (0, u "elementData"), (0, u "[Ljava/lang/Object;"), (2, u "EMPTY_ELEMENTDATA"), (21, .fieldref 10 40), (0, .nameAndType 41 14), (0, u "DEFAULTCAPACITY_EMPTY_ELEMENTDATA"), (4, u "toArray"), (0, u "()[Ljava/lang/Object;"), (0, .fieldref 10 49), (0, .nameAndType 50 51), (0, u "size"), (0, u "I"), (6, .class_ 60), (1, u "java/util/Arrays"), (0, u "copyOf"), (1, .fieldref 10 64), (0, .nameAndType 65 51), (0, u "modCount"), (0, .methodref 58 67), (0, .nameAndType 61 68), (0, u "([Ljava/lang/Object;I)[Ljava/lang/Object;"), (0, .methodref 10 70), (0, .nameAndType 71 72), (0, u "grow"), (0, u "(I)[Ljava/lang/Object;"), (6, .methodref 80 81), (0, .class_ 82), (0, .nameAndType 83 84), (0, u "java/lang/Math"), (0, u "max"), (0, u "(II)I"), (11, u "(Ljava/lang/Object;)Z"), (32, .methodref 10 130), (0, .nameAndType 71 47), (0, .methodref 10 132), (0, .nameAndType 133 134), (0, u "add"), (0, u "(Ljava/lang/Object;[Ljava/lang/Object;I)V"), (13, .class_ 149), (0, u "java/util/List"), (23, u "()Z"), (88, .class_ 263), (0, u "java/util/ArrayList$ListItr"), (3, .class_ 268), (0, u "java/util/ArrayList$Itr"), (7, .class_ 277), (0, u "java/util/ArrayList$SubList"), (12, .class_ 291), (0, u "java/util/ArrayList$ArrayListSpliterator"), (37, .class_ 330), (0, u "java/util/RandomAccess"), (0, .class_ 332), (0, u "java/lang/Cloneable"), (0, .class_ 334), (0, u "java/io/Serializable"), (0, u "serialVersionUID"), (0, u "J"), (3, u "DEFAULT_CAPACITY"), (22, u "isEmpty"), (136, .class_ 501), (0, u "java/util/ArrayList$SubList$2"), (0, .class_ 503), (0, u "java/util/ArrayList$SubList$1")] 5

def k25c0 : Code := { maxStack := 2, maxLocals := 1, code := jdk_38_method_2_code, exceptionTable := #[], attributes := #[] }
def k25m0 : Method := { name := "<init>", desc := "()V", sig := { parameters := [], returnType := none }, accessFlags := 1, code := some k25c0 }
def k25c1 : Code := { maxStack := 4, maxLocals := 4, code := jdk_38_method_6_code, exceptionTable := #[], attributes := #[] }
def k25m1 : Method := { name := "grow", desc := "(I)[Ljava/lang/Object;", sig := { parameters := [.int], returnType := some (.array (.object "java/lang/Object")) }, accessFlags := 2, code := some k25c1 }
def k25c2 : Code := { maxStack := 3, maxLocals := 1, code := jdk_38_method_7_code, exceptionTable := #[], attributes := #[] }
def k25m2 : Method := { name := "grow", desc := "()[Ljava/lang/Object;", sig := { parameters := [], returnType := some (.array (.object "java/lang/Object")) }, accessFlags := 2, code := some k25c2 }
def k25c3 : Code := { maxStack := 1, maxLocals := 1, code := jdk_38_method_9_code, exceptionTable := #[], attributes := #[] }
def k25m3 : Method := { name := "isEmpty", desc := "()Z", sig := { parameters := [], returnType := some .boolean }, accessFlags := 1, code := some k25c3 }
def k25c4 : Code := { maxStack := 2, maxLocals := 1, code := jdk_38_method_16_code, exceptionTable := #[], attributes := #[] }
def k25m4 : Method := { name := "toArray", desc := "()[Ljava/lang/Object;", sig := { parameters := [], returnType := some (.array (.object "java/lang/Object")) }, accessFlags := 1, code := some k25c4 }
def k25c5 : Code := { maxStack := 3, maxLocals := 4, code := jdk_38_method_24_code, exceptionTable := #[], attributes := #[] }
def k25m5 : Method := { name := "add", desc := "(Ljava/lang/Object;[Ljava/lang/Object;I)V", sig := { parameters := [(.object "java/lang/Object"), (.array (.object "java/lang/Object")), .int], returnType := none }, accessFlags := 2, code := some k25c5 }
def k25c6 : Code := { maxStack := 4, maxLocals := 2, code := jdk_38_method_25_code, exceptionTable := #[], attributes := #[] }
def k25m6 : Method := { name := "add", desc := "(Ljava/lang/Object;)Z", sig := { parameters := [(.object "java/lang/Object")], returnType := some .boolean }, accessFlags := 1, code := some k25c6 }
/-- java/util/ArrayList -/
def k25 : Class := { plain "java/util/ArrayList" (some 23) with
  accessFlags := 33
  interfaces := #[13, 17, 24, 2]
  cf := some (fileOf pool25 10 #[.nestMembers #[290, 276, 500, 502, 262, 267]] #[{ accessFlags := 1, nameIndex := 5, descriptorIndex := 6, attributes := #[] }, { accessFlags := 2, nameIndex := 71, descriptorIndex := 72, attributes := #[] }, { accessFlags := 2, nameIndex := 71, descriptorIndex := 47, attributes := #[] }, { accessFlags := 1, nameIndex := 363, descriptorIndex := 173, attributes := #[] }, { accessFlags := 1, nameIndex := 46, descriptorIndex := 47, attributes := #[] }, { accessFlags := 2, nameIndex := 133, descriptorIndex := 134, attributes := #[] }, { accessFlags := 1, nameIndex := 133, descriptorIndex := 96, attributes := #[] }] 33 2 #[148, 329, 331, 333] #[{ accessFlags := 26, nameIndex := 335, descriptorIndex := 336, attributes := #[] }, { accessFlags := 26, nameIndex := 340, descriptorIndex := 51, attributes := #[] }, { accessFlags := 26, nameIndex := 17, descriptorIndex := 14, attributes := #[] }, { accessFlags := 26, nameIndex := 41, descriptorIndex := 14, attributes := #[] }, { accessFlags := 128, nameIndex := 13, descriptorIndex := 14, attributes := #[] }, { accessFlags := 2, nameIndex := 50, descriptorIndex := 51, attributes := #[] }])
  fields := #[{ name := "serialVersionUID", type := .long, accessFlags := 26, slot := 0, constantValue := 0 }, { name := "DEFAULT_CAPACITY", type := .int, accessFlags := 26, slot := 1, constantValue := 0 }, { name := "EMPTY_ELEMENTDATA", type := (.array (.object "java/lang/Object")), accessFlags := 26, slot := 2, constantValue := 0 }, { name := "DEFAULTCAPACITY_EMPTY_ELEMENTDATA", type := (.array (.object "java/lang/Object")), accessFlags := 26, slot := 3, constantValue := 0 }, { name := "elementData", type := (.array (.object "java/lang/Object")), accessFlags := 128, slot := 1, constantValue := 0 }, { name := "size", type := .int, accessFlags := 2, slot := 2, constantValue := 0 }]
  methods := #[k25m0, k25m1, k25m2, k25m3, k25m4, k25m5, k25m6]
  instanceTypes := #[.int, (.array (.object "java/lang/Object")), .int]
  staticTypes := #[.long, .int, (.array (.object "java/lang/Object")), (.array (.object "java/lang/Object"))]
  resolved := Array.replicate 509 none
  statics := some 4 }

def pool26 : Array CpInfo := pool [(1, .methodref 2 3), (0, .class_ 4), (0, .nameAndType 5 6), (0, u "java/lang/Object"), (0, u "<init>"), (0, u "()V"), (1, .class_ 10), (1, u "java/lang/Number"), (2, .class_ 14), (0, u "java/io/Serializable"), (0, u "serialVersionUID"), (0, u "J")] 20

def k26c0 : Code := { maxStack := 1, maxLocals := 1, code := jdk_18_method_1_code, exceptionTable := #[], attributes := #[] }
def k26m0 : Method := { name := "<init>", desc := "()V", sig := { parameters := [], returnType := none }, accessFlags := 1, code := some k26c0 }
/-- java/lang/Number -/
def k26 : Class := { plain "java/lang/Number" (some 0) with
  accessFlags := 1057
  interfaces := #[2]
  cf := some (fileOf pool26 8 #[] #[{ accessFlags := 1, nameIndex := 5, descriptorIndex := 6, attributes := #[] }] 1057 2 #[13] #[{ accessFlags := 26, nameIndex := 15, descriptorIndex := 16, attributes := #[] }])
  fields := #[{ name := "serialVersionUID", type := .long, accessFlags := 26, slot := 0, constantValue := 0 }]
  methods := #[k26m0]
  instanceTypes := #[]
  staticTypes := #[.long]
  resolved := Array.replicate 37 none
  statics := none }

def pool27 : Array CpInfo := pool [(1, .class_ 2), (0, u "java/lang/Integer"), (16, u "digits"), (0, u "[C"), (46, u "<init>"), (17, u "DigitOnes"), (0, u "[B"), (2, u "DigitTens"), (10, .nameAndType 67 101), (0, u "()V"), (85, u "valueOf"), (0, u "(I)Ljava/lang/Integer;"), (0, .class_ 190), (0, u "java/lang/Integer$IntegerCache"), (0, .fieldref 189 192), (0, .nameAndType 193 194), (0, u "high"), (0, u "I"), (0, .fieldref 189 196), (0, .nameAndType 197 198), (0, u "cache"), (0, u "[Ljava/lang/Integer;"), (0, .methodref 1 200), (0, .nameAndType 67 201), (0, u "(I)V"), (0, .methodref 203 100), (0, .class_ 204), (0, u "java/lang/Number"), (0, .fieldref 1 206), (0, .nameAndType 207 194), (0, u "value"), (94, u "TYPE"), (0, u "Ljava/lang/Class;"), (0, .class_ 305), (0, u "java/lang/Comparable"), (0, .class_ 307), (0, u "java/lang/constant/Constable"), (0, .class_ 309), (0, u "java/lang/constant/ConstantDesc"), (0, u "MIN_VALUE"), (1, u "MAX_VALUE"), (3, u "SIZE"), (1, u "BYTES"), (1, u "serialVersionUID"), (0, u "J")] 131

def k27c0 : Code := { maxStack := 3, maxLocals := 1, code := jdk_33_method_22_code, exceptionTable := #[], attributes := #[] }
def k27m0 : Method := { name := "valueOf", desc := "(I)Ljava/lang/Integer;", sig := { parameters := [.int], returnType := some (.object "java/lang/Integer") }, accessFlags := 9, code := some k27c0 }
def k27c1 : Code := { maxStack := 2, maxLocals := 2, code := jdk_33_method_23_code, exceptionTable := #[], attributes := #[] }
def k27m1 : Method := { name := "<init>", desc := "(I)V", sig := { parameters := [.int], returnType := none }, accessFlags := 1, code := some k27c1 }
/-- java/lang/Integer -/
def k27 : Class := { plain "java/lang/Integer" (some 26) with
  accessFlags := 49
  interfaces := #[3, 5, 6]
  cf := some (fileOf pool27 1 #[.nestMembers #[189]] #[{ accessFlags := 9, nameIndex := 187, descriptorIndex := 188, attributes := #[] }, { accessFlags := 1, nameIndex := 67, descriptorIndex := 201, attributes := #[] }] 49 203 #[304, 306, 308] #[{ accessFlags := 25, nameIndex := 310, descriptorIndex := 194, attributes := #[] }, { accessFlags := 25, nameIndex := 312, descriptorIndex := 194, attributes := #[] }, { accessFlags := 25, nameIndex := 302, descriptorIndex := 303, attributes := #[] }, { accessFlags := 24, nameIndex := 19, descriptorIndex := 20, attributes := #[] }, { accessFlags := 24, nameIndex := 89, descriptorIndex := 86, attributes := #[] }, { accessFlags := 24, nameIndex := 85, descriptorIndex := 86, attributes := #[] }, { accessFlags := 18, nameIndex := 207, descriptorIndex := 194, attributes := #[] }, { accessFlags := 25, nameIndex := 316, descriptorIndex := 194, attributes := #[] }, { accessFlags := 25, nameIndex := 318, descriptorIndex := 194, attributes := #[] }, { accessFlags := 26, nameIndex := 320, descriptorIndex := 321, attributes := #[] }])
  fields := #[{ name := "MIN_VALUE", type := .int, accessFlags := 25, slot := 0, constantValue := 0 }, { name := "MAX_VALUE", type := .int, accessFlags := 25, slot := 1, constantValue := 0 }, { name := "TYPE", type := (.object "java/lang/Class"), accessFlags := 25, slot := 2, constantValue := 0 }, { name := "digits", type := (.array .char), accessFlags := 24, slot := 3, constantValue := 0 }, { name := "DigitTens", type := (.array .byte), accessFlags := 24, slot := 4, constantValue := 0 }, { name := "DigitOnes", type := (.array .byte), accessFlags := 24, slot := 5, constantValue := 0 }, { name := "value", type := .int, accessFlags := 18, slot := 0, constantValue := 0 }, { name := "SIZE", type := .int, accessFlags := 25, slot := 6, constantValue := 0 }, { name := "BYTES", type := .int, accessFlags := 25, slot := 7, constantValue := 0 }, { name := "serialVersionUID", type := .long, accessFlags := 26, slot := 8, constantValue := 0 }]
  methods := #[k27m0, k27m1]
  instanceTypes := #[.int]
  staticTypes := #[.int, .int, (.object "java/lang/Class"), (.array .char), (.array .byte), (.array .byte), .int, .int, .long]
  resolved := Array.replicate 453 none
  statics := none }

def pool28 : Array CpInfo := pool [(2, .class_ 4), (1, u "java/lang/Object"), (0, u "<init>"), (0, u "()V"), (0, .class_ 8), (0, u "java/lang/Integer"), (7, .class_ 18), (1, u "java/lang/Integer$IntegerCache"), (0, u "$assertionsDisabled"), (0, u "Z"), (26, u "high"), (0, u "I"), (8, u "archivedCache"), (0, u "[Ljava/lang/Integer;"), (12, u "cache"), (0, u "low")] 27

def k28m0 : Method := { name := "<init>", desc := "()V", sig := { parameters := [], returnType := none }, accessFlags := 2, code := none }
/-- java/lang/Integer$IntegerCache -/
def k28 : Class := { plain "java/lang/Integer$IntegerCache" (some 0) with
  accessFlags := 48
  interfaces := #[]
  cf := some (fileOf pool28 16 #[.nestHost 7] #[{ accessFlags := 2, nameIndex := 5, descriptorIndex := 6, attributes := #[] }] 48 2 #[] #[{ accessFlags := 24, nameIndex := 72, descriptorIndex := 48, attributes := #[] }, { accessFlags := 24, nameIndex := 47, descriptorIndex := 48, attributes := #[] }, { accessFlags := 24, nameIndex := 71, descriptorIndex := 58, attributes := #[] }, { accessFlags := 8, nameIndex := 57, descriptorIndex := 58, attributes := #[] }, { accessFlags := 4120, nameIndex := 19, descriptorIndex := 20, attributes := #[] }])
  fields := #[{ name := "low", type := .int, accessFlags := 24, slot := 0, constantValue := 0 }, { name := "high", type := .int, accessFlags := 24, slot := 1, constantValue := 0 }, { name := "cache", type := (.array (.object "java/lang/Integer")), accessFlags := 24, slot := 2, constantValue := 0 }, { name := "archivedCache", type := (.array (.object "java/lang/Integer")), accessFlags := 8, slot := 3, constantValue := 0 }, { name := "$assertionsDisabled", type := .boolean, accessFlags := 4120, slot := 4, constantValue := 0 }]
  methods := #[k28m0]
  instanceTypes := #[]
  staticTypes := #[.int, .int, (.array (.object "java/lang/Integer")), (.array (.object "java/lang/Integer")), .boolean]
  resolved := Array.replicate 100 none
  statics := some 5 }

def pool29 : Array CpInfo := pool [(1, .class_ 2), (0, u "java/lang/Math"), (1, .class_ 6), (1, u "java/lang/Object"), (0, u "<init>"), (0, u "()V"), (89, .class_ 100), (1, u "java/lang/Math$RandomNumberGeneratorHolder"), (71, u "negativeZeroFloatBits"), (0, u "J"), (2, u "negativeZeroDoubleBits"), (21, u "max"), (2, u "min"), (43, u "$assertionsDisabled"), (0, u "Z"), (88, u "(II)I"), (2, u "twoToTheDoubleScaleDown"), (0, u "D"), (4, u "twoToTheDoubleScaleUp"), (9, u "E"), (3, u "PI"), (2, u "TAU"), (2, u "DEGREES_TO_RADIANS"), (0, u "RADIANS_TO_DEGREES")] 94

def k29m0 : Method := { name := "<init>", desc := "()V", sig := { parameters := [], returnType := none }, accessFlags := 2, code := none }
def k29c1 : Code := { maxStack := 2, maxLocals := 2, code := jdk_29_method_65_code, exceptionTable := #[], attributes := #[] }
def k29m1 : Method := { name := "max", desc := "(II)I", sig := { parameters := [.int, .int], returnType := some .int }, accessFlags := 9, code := some k29c1 }
def k29c2 : Code := { maxStack := 2, maxLocals := 2, code := jdk_29_method_69_code, exceptionTable := #[], attributes := #[] }
def k29m2 : Method := { name := "min", desc := "(II)I", sig := { parameters := [.int, .int], returnType := some .int }, accessFlags := 9, code := some k29c2 }
/-- java/lang/Math -/
def k29 : Class := { plain "java/lang/Math" (some 0) with
  accessFlags := 49
  interfaces := #[]
  cf := some (fileOf pool29 1 #[.nestMembers #[98]] #[{ accessFlags := 2, nameIndex := 7, descriptorIndex := 8, attributes := #[] }, { accessFlags := 9, nameIndex := 198, descriptorIndex := 335, attributes := #[] }, { accessFlags := 9, nameIndex := 201, descriptorIndex := 335, attributes := #[] }] 49 4 #[] #[{ accessFlags := 25, nameIndex := 354, descriptorIndex := 339, attributes := #[] }, { accessFlags := 25, nameIndex := 358, descriptorIndex := 339, attributes := #[] }, { accessFlags := 25, nameIndex := 361, descriptorIndex := 339, attributes := #[] }, { accessFlags := 26, nameIndex := 364, descriptorIndex := 339, attributes := #[] }, { accessFlags := 26, nameIndex := 365, descriptorIndex := 339, attributes := #[] }, { accessFlags := 26, nameIndex := 172, descriptorIndex := 173, attributes := #[] }, { accessFlags := 26, nameIndex := 176, descriptorIndex := 173, attributes := #[] }, { accessFlags := 8, nameIndex := 344, descriptorIndex := 339, attributes := #[] }, { accessFlags := 8, nameIndex := 338, descriptorIndex := 339, attributes := #[] }, { accessFlags := 4120, nameIndex := 245, descriptorIndex := 246, attributes := #[] }])
  fields := #[{ name := "E", type := .double, accessFlags := 25, slot := 0, constantValue := 0 }, { name := "PI", type := .double, accessFlags := 25, slot := 1, constantValue := 0 }, { name := "TAU", type := .double, accessFlags := 25, slot := 2, constantValue := 0 }, { name := "DEGREES_TO_RADIANS", type := .double, accessFlags := 26, slot := 3, constantValue := 0 }, { name := "RADIANS_TO_DEGREES", type := .double, accessFlags := 26, slot := 4, constantValue := 0 }, { name := "negativeZeroFloatBits", type := .long, accessFlags := 26, slot := 5, constantValue := 0 }, { name := "negativeZeroDoubleBits", type := .long, accessFlags := 26, slot := 6, constantValue := 0 }, { name := "twoToTheDoubleScaleUp", type := .double, accessFlags := 8, slot := 7, constantValue := 0 }, { name := "twoToTheDoubleScaleDown", type := .double, accessFlags := 8, slot := 8, constantValue := 0 }, { name := "$assertionsDisabled", type := .boolean, accessFlags := 4120, slot := 9, constantValue := 0 }]
  methods := #[k29m0, k29m1, k29m2]
  instanceTypes := #[]
  staticTypes := #[.double, .double, .double, .double, .double, .long, .long, .double, .double, .boolean]
  resolved := Array.replicate 460 none
  statics := none }

def pool30 : Array CpInfo := pool [(1, .methodref 2 3), (0, .class_ 4), (0, .nameAndType 5 6), (0, u "java/util/ImmutableCollections$AbstractImmutableList"), (0, u "<init>"), (0, u "()V"), (0, .methodref 8 9), (0, .class_ 10), (0, .nameAndType 11 12), (0, u "java/util/Objects"), (0, u "requireNonNull"), (0, u "(Ljava/lang/Object;)Ljava/lang/Object;"), (0, .fieldref 14 15), (0, .class_ 16), (0, .nameAndType 17 18), (0, u "java/util/ImmutableCollections$List12"), (0, u "e0"), (0, u "Ljava/lang/Object;"), (0, .fieldref 20 21), (0, .class_ 22), (0, .nameAndType 23 18), (0, u "java/util/ImmutableCollections"), (0, u "EMPTY"), (0, .fieldref 14 25), (0, .nameAndType 26 18), (0, u "e1"), (24, u "size"), (0, u "()I"), (17, .class_ 71), (0, u "java/io/Serializable"), (4, u "(Ljava/lang/Object;)V"), (8, u "(Ljava/lang/Object;Ljava/lang/Object;)V"), (2, u "isEmpty"), (0, u "()Z")] 35

def k30c0 : Code := { maxStack := 2, maxLocals := 2, code := jdk_44_method_1_code, exceptionTable := #[], attributes := #[] }
def k30m0 : Method := { name := "<init>", desc := "(Ljava/lang/Object;)V", sig := { parameters := [(.object "java/lang/Object")], returnType := none }, accessFlags := 0, code := some k30c0 }
def k30c1 : Code := { maxStack := 2, maxLocals := 3, code := jdk_44_method_2_code, exceptionTable := #[], attributes := #[] }
def k30m1 : Method := { name := "<init>", desc := "(Ljava/lang/Object;Ljava/lang/Object;)V", sig := { parameters := [(.object "java/lang/Object"), (.object "java/lang/Object")], returnType := none }, accessFlags := 0, code := some k30c1 }
def k30c2 : Code := { maxStack := 2, maxLocals := 1, code := jdk_44_method_3_code, exceptionTable := #[], attributes := #[] }
def k30m2 : Method := { name := "size", desc := "()I", sig := { parameters := [], returnType := some .int }, accessFlags := 1, code := some k30c2 }
def k30c3 : Code := { maxStack := 1, maxLocals := 1, code := jdk_44_method_4_code, exceptionTable := #[], attributes := #[] }
def k30m3 : Method := { name := "isEmpty", desc := "()Z", sig := { parameters := [], returnType := some .boolean }, accessFlags := 1, code := some k30c3 }
/-- java/util/ImmutableCollections$List12 -/
def k30 : Class := { plain "java/util/ImmutableCollections$List12" (some 18) with
  accessFlags := 48
  interfaces := #[2]
  cf := some (fileOf pool30 14 #[.nestHost 20] #[{ accessFlags := 0, nameIndex := 5, descriptorIndex := 76, attributes := #[] }, { accessFlags := 0, nameIndex := 5, descriptorIndex := 85, attributes := #[] }, { accessFlags := 1, nameIndex := 51, descriptorIndex := 52, attributes := #[] }, { accessFlags := 1, nameIndex := 88, descriptorIndex := 89, attributes := #[] }] 48 2 #[70] #[{ accessFlags := 18, nameIndex := 17, descriptorIndex := 18, attributes := #[] }, { accessFlags := 18, nameIndex := 26, descriptorIndex := 18, attributes := #[] }])
  fields := #[{ name := "e0", type := (.object "java/lang/Object"), accessFlags := 18, slot := 0, constantValue := 0 }, { name := "e1", type := (.object "java/lang/Object"), accessFlags := 18, slot := 1, constantValue := 0 }]
  methods := #[k30m0, k30m1, k30m2, k30m3]
  instanceTypes := #[(.object "java/lang/Object"), (.object "java/lang/Object")]
  staticTypes := #[]
  resolved := Array.replicate 125 none
  statics := none }

def pool31 : Array CpInfo := pool [(2, .class_ 4), (1, u "java/lang/Object"), (0, u "<init>"), (0, u "()V"), (7, .class_ 16), (1, u "java/util/Arrays"), (57, .class_ 76), (1, u "java/util/Arrays$NaturalOrder"), (9, .methodref 2 87), (0, .nameAndType 88 89), (0, u "getClass"), (0, u "()Ljava/lang/Class;"), (20, .class_ 111), (0, u "[Ljava/lang/Object;"), (1, .class_ 115), (1, u "java/util/Arrays$LegacyMergeSort"), (1, u "Z"), (32, .methodref 151 152), (0, .class_ 153), (0, .nameAndType 154 155), (0, u "java/lang/System"), (0, u "arraycopy"), (0, u "(Ljava/lang/Object;ILjava/lang/Object;II)V"), (144, .methodref 14 301), (0, .nameAndType 302 303), (0, u "copyOf"), (0, u "([Ljava/lang/Object;ILjava/lang/Class;)[Ljava/lang/Object;"), (0, .methodref 305 306), (0, .class_ 307), (0, .nameAndType 308 309), (0, u "java/lang/Math"), (0, u "min"), (0, u "(II)I"), (65, .class_ 376), (0, u "java/util/Arrays$ArrayList"), (68, u "$assertionsDisabled"), (269, u "MIN_ARRAY_SORT_GRAN"), (0, u "I"), (2, u "INSERTIONSORT_THRESHOLD"), (140, u "([Ljava/lang/Object;I)[Ljava/lang/Object;"), (114, .class_ 976), (0, u "java/util/Arrays$ArrayItr")] 52

def k31m0 : Method := { name := "<init>", desc := "()V", sig := { parameters := [], returnType := none }, accessFlags := 2, code := none }
def k31c1 : Code := { maxStack := 3, maxLocals := 2, code := jdk_65_method_119_code, exceptionTable := #[], attributes := #[] }
def k31m1 : Method := { name := "copyOf", desc := "([Ljava/lang/Object;I)[Ljava/lang/Object;", sig := { parameters := [(.array (.object "java/lang/Object")), .int], returnType := some (.array (.object "java/lang/Object")) }, accessFlags := 9, code := some k31c1 }
def k31c2 : Code := { maxStack := 6, maxLocals := 4, code := jdk_65_method_120_code, exceptionTable := #[], attributes := #[] }
def k31m2 : Method := { name := "copyOf", desc := "([Ljava/lang/Object;ILjava/lang/Class;)[Ljava/lang/Object;", sig := { parameters := [(.array (.object "java/lang/Object")), .int, (.object "java/lang/Class")], returnType := some (.array (.object "java/lang/Object")) }, accessFlags := 9, code := some k31c2 }
/-- java/util/Arrays -/
def k31 : Class := { plain "java/util/Arrays" (some 0) with
  accessFlags := 49
  interfaces := #[]
  cf := some (fileOf pool31 14 #[.nestMembers #[975, 375, 113, 74]] #[{ accessFlags := 2, nameIndex := 5, descriptorIndex := 6, attributes := #[] }, { accessFlags := 9, nameIndex := 302, descriptorIndex := 860, attributes := #[] }, { accessFlags := 9, nameIndex := 302, descriptorIndex := 303, attributes := #[] }] 49 2 #[] #[{ accessFlags := 26, nameIndex := 715, descriptorIndex := 716, attributes := #[] }, { accessFlags := 26, nameIndex := 719, descriptorIndex := 716, attributes := #[] }, { accessFlags := 4120, nameIndex := 445, descriptorIndex := 117, attributes := #[] }])
  fields := #[{ name := "MIN_ARRAY_SORT_GRAN", type := .int, accessFlags := 26, slot := 0, constantValue := 0 }, { name := "INSERTIONSORT_THRESHOLD", type := .int, accessFlags := 26, slot := 1, constantValue := 0 }, { name := "$assertionsDisabled", type := .boolean, accessFlags := 4120, slot := 2, constantValue := 0 }]
  methods := #[k31m0, k31m1, k31m2]
  instanceTypes := #[]
  staticTypes := #[.int, .int, .boolean]
  resolved := Array.replicate 1029 none
  statics := none }

def pool32 : Array CpInfo := pool [(2, .class_ 4), (1, u "java/lang/Object"), (0, u "<init>"), (0, u "()V"), (1, .class_ 10), (1, u "java/lang/System"), (0, u "allowSecurityManager"), (0, u "I"), (16, u "cons"), (0, u "Ljava/io/Console;"), (77, .class_ 110), (1, u "java/lang/System$CallersHolder"), (43, u "initialErrStream"), (0, u "Ljava/io/PrintStream;"), (19, u "security"), (0, u "Ljava/lang/SecurityManager;"), (31, .class_ 209), (0, u "java/lang/System$1"), (7, u "props"), (0, u "Ljava/util/Properties;"), (2, u "lineSeparator"), (0, u "Ljava/lang/String;"), (96, .class_ 321), (1, u "java/lang/System$LoggerFinder"), (5, .class_ 328), (0, u "java/lang/System$Logger"), (67, u "err"), (2, u "out"), (91, u "notSupportedJnuEncoding"), (15, u "in"), (17, u "initialIn"), (0, u "Ljava/io/InputStream;"), (35, u "bootLayer"), (0, u "Ljava/lang/ModuleLayer;"), (99, .class_ 664), (0, u "java/lang/System$2"), (9, u "NEVER"), (2, u "MAYBE"), (49, u "arraycopy"), (0, u "(Ljava/lang/Object;ILjava/lang/Object;II)V"), (72, .class_ 802), (0, u "java/lang/System$Logger$Level")] 31

def k32m0 : Method := { name := "<init>", desc := "()V", sig := { parameters := [], returnType := none }, accessFlags := 2, code := none }
def k32m1 : Method := { name := "arraycopy", desc := "(Ljava/lang/Object;ILjava/lang/Object;II)V", sig := { parameters := [(.object "java/lang/Object"), .int, (.object "java/lang/Object"), .int, .int], returnType := none }, accessFlags := 265, code := none }
/-- java/lang/System -/
def k32 : Class := { plain "java/lang/System" (some 0) with
  accessFlags := 49
  interfaces := #[]
  cf := some (fileOf pool32 8 #[.nestMembers #[319, 327, 801, 108, 663, 208]] #[{ accessFlags := 2, nameIndex := 5, descriptorIndex := 6, attributes := #[] }, { accessFlags := 265, nameIndex := 727, descriptorIndex := 728, attributes := #[] }] 49 2 #[] #[{ accessFlags := 25, nameIndex := 507, descriptorIndex := 526, attributes := #[] }, { accessFlags := 25, nameIndex := 399, descriptorIndex := 155, attributes := #[] }, { accessFlags := 25, nameIndex := 396, descriptorIndex := 155, attributes := #[] }, { accessFlags := 10, nameIndex := 525, descriptorIndex := 526, attributes := #[] }, { accessFlags := 26, nameIndex := 674, descriptorIndex := 12, attributes := #[] }, { accessFlags := 26, nameIndex := 677, descriptorIndex := 12, attributes := #[] }, { accessFlags := 10, nameIndex := 11, descriptorIndex := 12, attributes := #[] }, { accessFlags := 74, nameIndex := 175, descriptorIndex := 176, attributes := #[] }, { accessFlags := 10, nameIndex := 491, descriptorIndex := 222, attributes := #[] }, { accessFlags := 74, nameIndex := 29, descriptorIndex := 30, attributes := #[] }, { accessFlags := 74, nameIndex := 154, descriptorIndex := 155, attributes := #[] }, { accessFlags := 10, nameIndex := 217, descriptorIndex := 218, attributes := #[] }, { accessFlags := 10, nameIndex := 221, descriptorIndex := 222, attributes := #[] }, { accessFlags := 8, nameIndex := 562, descriptorIndex := 563, attributes := #[] }])
  fields := #[{ name := "in", type := (.object "java/io/InputStream"), accessFlags := 25, slot := 0, constantValue := 0 }, { name := "out", type := (.object "java/io/PrintStream"), accessFlags := 25, slot := 1, constantValue := 0 }, { name := "err", type := (.object "java/io/PrintStream"), accessFlags := 25, slot := 2, constantValue := 0 }, { name := "initialIn", type := (.object "java/io/InputStream"), accessFlags := 10, slot := 3, constantValue := 0 }, { name := "NEVER", type := .int, accessFlags := 26, slot := 4, constantValue := 0 }, { name := "MAYBE", type := .int, accessFlags := 26, slot := 5, constantValue := 0 }, { name := "allowSecurityManager", type := .int, accessFlags := 10, slot := 6, constantValue := 0 }, { name := "security", type := (.object "java/lang/SecurityManager"), accessFlags := 74, slot := 7, constantValue := 0 }, { name := "notSupportedJnuEncoding", type := (.object "java/lang/String"), accessFlags := 10, slot := 8, constantValue := 0 }, { name := "cons", type := (.object "java/io/Console"), accessFlags := 74, slot := 9, constantValue := 0 }, { name := "initialErrStream", type := (.object "java/io/PrintStream"), accessFlags := 74, slot := 10, constantValue := 0 }, { name := "props", type := (.object "java/util/Properties"), accessFlags := 10, slot := 11, constantValue := 0 }, { name := "lineSeparator", type := (.object "java/lang/String"), accessFlags := 10, slot := 12, constantValue := 0 }, { name := "bootLayer", type := (.object "java/lang/ModuleLayer"), accessFlags := 8, slot := 13, constantValue := 0 }]
  methods := #[k32m0, k32m1]
  instanceTypes := #[]
  staticTypes := #[(.object "java/io/InputStream"), (.object "java/io/PrintStream"), (.object "java/io/PrintStream"), (.object "java/io/InputStream"), .int, .int, .int, (.object "java/lang/SecurityManager"), (.object "java/lang/String"), (.object "java/io/Console"), (.object "java/io/PrintStream"), (.object "java/util/Properties"), (.object "java/lang/String"), (.object "java/lang/ModuleLayer")]
  resolved := Array.replicate 834 none
  statics := none }

def pool33 : Array CpInfo := pool [(6, .class_ 8), (1, u "java/lang/Object"), (0, u "<init>"), (0, u "()V"), (1, .class_ 14), (1, u "java/lang/StringUTF16"), (31, u "$assertionsDisabled"), (0, u "Z"), (13, u "HI_BYTE_SHIFT"), (0, u "I"), (2, u "LO_BYTE_SHIFT"), (49, .methodref 12 116), (0, .nameAndType 117 118), (0, u "compress"), (0, u "([CI[BII)I"), (3, u "([CII)[B"), (138, u "coderFromArrayLen"), (0, u "([BI)B"), (106, .class_ 371), (1, u "java/lang/StringUTF16$LinesSpliterator"), (58, u "MAX_LENGTH"), (196, .class_ 628), (0, u "java/lang/StringUTF16$CodePointsSpliterator"), (0, .class_ 630), (0, u "java/lang/StringUTF16$CharsSpliterator")] 4

def k33m0 : Method := { name := "<init>", desc := "()V", sig := { parameters := [], returnType := none }, accessFlags := 0, code := none }
def k33c1 : Code := { maxStack := 2, maxLocals := 2, code := jdk_52_method_15_code, exceptionTable := #[], attributes := #[] }
def k33m1 : Method := { name := "coderFromArrayLen", desc := "([BI)B", sig := { parameters := [(.array .byte), .int], returnType := some .byte }, accessFlags := 8, code := some k33c1 }
def k33c2 : Code := { maxStack := 5, maxLocals := 6, code := jdk_52_method_16_code, exceptionTable := #[], attributes := #[] }
def k33m2 : Method := { name := "compress", desc := "([CII)[B", sig := { parameters := [(.array .char), .int, .int], returnType := some (.array .byte) }, accessFlags := 9, code := some k33c2 }
def k33c3 : Code := { maxStack := 3, maxLocals := 7, code := jdk_52_method_21_code, exceptionTable := #[], attributes := #[] }
def k33m3 : Method := { name := "compress", desc := "([CI[BII)I", sig := { parameters := [(.array .char), .int, (.array .byte), .int, .int], returnType := some .int }, accessFlags := 9, code := some k33c3 }
/-- java/lang/StringUTF16 -/
def k33 : Class := { plain "java/lang/StringUTF16" (some 0) with
  accessFlags := 48
  interfaces := #[]
  cf := some (fileOf pool33 12 #[.nestMembers #[627, 629, 369]] #[{ accessFlags := 0, nameIndex := 9, descriptorIndex := 10, attributes := #[] }, { accessFlags := 8, nameIndex := 261, descriptorIndex := 262, attributes := #[] }, { accessFlags := 9, nameIndex := 117, descriptorIndex := 122, attributes := #[] }, { accessFlags := 9, nameIndex := 117, descriptorIndex := 118, attributes := #[] }] 48 6 #[] #[{ accessFlags := 26, nameIndex := 61, descriptorIndex := 62, attributes := #[] }, { accessFlags := 26, nameIndex := 65, descriptorIndex := 62, attributes := #[] }, { accessFlags := 24, nameIndex := 430, descriptorIndex := 62, attributes := #[] }, { accessFlags := 4120, nameIndex := 46, descriptorIndex := 47, attributes := #[] }])
  fields := #[{ name := "HI_BYTE_SHIFT", type := .int, accessFlags := 26, slot := 0, constantValue := 0 }, { name := "LO_BYTE_SHIFT", type := .int, accessFlags := 26, slot := 1, constantValue := 0 }, { name := "MAX_LENGTH", type := .int, accessFlags := 24, slot := 2, constantValue := 0 }, { name := "$assertionsDisabled", type := .boolean, accessFlags := 4120, slot := 3, constantValue := 0 }]
  methods := #[k33m0, k33m1, k33m2, k33m3]
  instanceTypes := #[]
  staticTypes := #[.int, .int, .int, .boolean]
  resolved := Array.replicate 635 none
  statics := none }

def pool34 : Array CpInfo := pool [(4, .class_ 6), (1, u "java/lang/Object"), (0, u "<init>"), (0, u "()V"), (5, .class_ 16), (1, u "java/lang/StringLatin1"), (73, u "canEncode"), (14, u "(C)Z"), (15, u "$assertionsDisabled"), (0, u "Z"), (98, .class_ 223), (1, u "java/lang/StringLatin1$LinesSpliterator"), (156, u "toBytes"), (1, u "(C)[B"), (7, .class_ 391), (0, u "java/lang/StringLatin1$CharsSpliterator")] 3

def k34m0 : Method := { name := "<init>", desc := "()V", sig := { parameters := [], returnType := none }, accessFlags := 0, code := none }
def k34c1 : Code := { maxStack := 2, maxLocals := 1, code := jdk_43_method_3_code, exceptionTable := #[], attributes := #[] }
def k34m1 : Method := { name := "canEncode", desc := "(C)Z", sig := { parameters := [.char], returnType := some .boolean }, accessFlags := 9, code := some k34c1 }
def k34c2 : Code := { maxStack := 4, maxLocals := 1, code := jdk_43_method_46_code, exceptionTable := #[], attributes := #[] }
def k34m2 : Method := { name := "toBytes", desc := "(C)[B", sig := { parameters := [.char], returnType := some (.array .byte) }, accessFlags := 9, code := some k34c2 }
/-- java/lang/StringLatin1 -/
def k34 : Class := { plain "java/lang/StringLatin1" (some 0) with
  accessFlags := 48
  interfaces := #[]
  cf := some (fileOf pool34 14 #[.nestMembers #[390, 221]] #[{ accessFlags := 0, nameIndex := 7, descriptorIndex := 8, attributes := #[] }, { accessFlags := 9, nameIndex := 90, descriptorIndex := 105, attributes := #[] }, { accessFlags := 9, nameIndex := 380, descriptorIndex := 382, attributes := #[] }] 48 4 #[] #[{ accessFlags := 4120, nameIndex := 121, descriptorIndex := 122, attributes := #[] }])
  fields := #[{ name := "$assertionsDisabled", type := .boolean, accessFlags := 4120, slot := 0, constantValue := 0 }]
  methods := #[k34m0, k34m1, k34m2]
  instanceTypes := #[]
  staticTypes := #[.boolean]
  resolved := Array.replicate 395 none
  statics := none }

def pool35 : Array CpInfo := pool [(2, .class_ 4), (1, u "java/lang/Object"), (0, u "<init>"), (0, u "()V"), (17, .class_ 26), (1, u "jdk/internal/util/Preconditions"), (28, .class_ 56), (0, u "jdk/internal/util/Preconditions$4"), (57, .class_ 115), (0, u "jdk/internal/util/Preconditions$1"), (7, u "SIOOBE_FORMATTER"), (0, u "Ljava/util/function/BiFunction;"), (0, .class_ 126), (0, u "jdk/internal/util/Preconditions$2"), (3, u "AIOOBE_FORMATTER"), (0, .class_ 132), (0, u "jdk/internal/util/Preconditions$3"), (3, u "IOOBE_FORMATTER")] 57

def k35m0 : Method := { name := "<init>", desc := "()V", sig := { parameters := [], returnType := none }, accessFlags := 1, code := none }
/-- jdk/internal/util/Preconditions -/
def k35 : Class := { plain "jdk/internal/util/Preconditions" (some 0) with
  accessFlags := 33
  interfaces := #[]
  cf := some (fileOf pool35 24 #[.nestMembers #[55, 131, 125, 114]] #[{ accessFlags := 1, nameIndex := 5, descriptorIndex := 6, attributes := #[] }] 33 2 #[] #[{ accessFlags := 25, nameIndex := 123, descriptorIndex := 124, attributes := #[] }, { accessFlags := 25, nameIndex := 130, descriptorIndex := 124, attributes := #[] }, { accessFlags := 25, nameIndex := 136, descriptorIndex := 124, attributes := #[] }])
  fields := #[{ name := "SIOOBE_FORMATTER", type := (.object "java/util/function/BiFunction"), accessFlags := 25, slot := 0, constantValue := 0 }, { name := "AIOOBE_FORMATTER", type := (.object "java/util/function/BiFunction"), accessFlags := 25, slot := 1, constantValue := 0 }, { name := "IOOBE_FORMATTER", type := (.object "java/util/function/BiFunction"), accessFlags := 25, slot := 2, constantValue := 0 }]
  methods := #[k35m0]
  instanceTypes := #[]
  staticTypes := #[(.object "java/util/function/BiFunction"), (.object "java/util/function/BiFunction"), (.object "java/util/function/BiFunction")]
  resolved := Array.replicate 194 none
  statics := some 6 }

def pool36 : Array CpInfo := pool [(9, u "<init>"), (6, .class_ 18), (1, u "java/lang/Object"), (0, u "()V"), (1, .class_ 23), (1, u "jdk/internal/util/ArraysSupport"), (0, u "LOG2_ARRAY_LONG_INDEX_SCALE"), (0, u "I"), (2, u "U"), (0, u "Ljdk/internal/misc/Unsafe;"), (8, u "BIG_ENDIAN"), (0, u "Z"), (8, u "LOG2_BYTE_BIT_SIZE"), (4, u "LOG2_ARRAY_INT_INDEX_SCALE"), (54, u "JLA"), (0, u "Ljdk/internal/access/JavaLangAccess;"), (11, u "LOG2_ARRAY_BOOLEAN_INDEX_SCALE"), (9, u "LOG2_ARRAY_BYTE_INDEX_SCALE"), (5, u "LOG2_ARRAY_CHAR_INDEX_SCALE"), (5, u "LOG2_ARRAY_SHORT_INDEX_SCALE"), (18, u "LOG2_ARRAY_FLOAT_INDEX_SCALE"), (24, u "LOG2_ARRAY_DOUBLE_INDEX_SCALE"), (89, u "T_BOOLEAN"), (2, u "T_CHAR"), (1, u "T_FLOAT"), (1, u "T_DOUBLE"), (1, u "T_BYTE"), (1, u "T_SHORT"), (1, u "T_INT"), (1, u "T_LONG"), (1, u "SOFT_MAX_ARRAY_LENGTH")] 83

def k36m0 : Method := { name := "<init>", desc := "()V", sig := { parameters := [], returnType := none }, accessFlags := 2, code := none }
/-- jdk/internal/util/ArraysSupport -/
def k36 : Class := { plain "jdk/internal/util/ArraysSupport" (some 0) with
  accessFlags := 33
  interfaces := #[]
  cf := some (fileOf pool36 21 #[] #[{ accessFlags := 2, nameIndex := 9, descriptorIndex := 19, attributes := #[] }] 33 16 #[] #[{ accessFlags := 24, nameIndex := 28, descriptorIndex := 29, attributes := #[] }, { accessFlags := 26, nameIndex := 38, descriptorIndex := 39, attributes := #[] }, { accessFlags := 25, nameIndex := 121, descriptorIndex := 25, attributes := #[] }, { accessFlags := 25, nameIndex := 131, descriptorIndex := 25, attributes := #[] }, { accessFlags := 25, nameIndex := 137, descriptorIndex := 25, attributes := #[] }, { accessFlags := 25, nameIndex := 143, descriptorIndex := 25, attributes := #[] }, { accessFlags := 25, nameIndex := 53, descriptorIndex := 25, attributes := #[] }, { accessFlags := 25, nameIndex := 24, descriptorIndex := 25, attributes := #[] }, { accessFlags := 25, nameIndex := 162, descriptorIndex := 25, attributes := #[] }, { accessFlags := 25, nameIndex := 187, descriptorIndex := 25, attributes := #[] }, { accessFlags := 26, nameIndex := 48, descriptorIndex := 25, attributes := #[] }, { accessFlags := 25, nameIndex := 277, descriptorIndex := 25, attributes := #[] }, { accessFlags := 25, nameIndex := 280, descriptorIndex := 25, attributes := #[] }, { accessFlags := 25, nameIndex := 282, descriptorIndex := 25, attributes := #[] }, { accessFlags := 25, nameIndex := 284, descriptorIndex := 25, attributes := #[] }, { accessFlags := 25, nameIndex := 286, descriptorIndex := 25, attributes := #[] }, { accessFlags := 25, nameIndex := 288, descriptorIndex := 25, attributes := #[] }, { accessFlags := 25, nameIndex := 290, descriptorIndex := 25, attributes := #[] }, { accessFlags := 25, nameIndex := 292, descriptorIndex := 25, attributes := #[] }, { accessFlags := 26, nameIndex := 108, descriptorIndex := 109, attributes := #[] }, { accessFlags := 25, nameIndex := 294, descriptorIndex := 25, attributes := #[] }])
  fields := #[{ name := "U", type := (.object "jdk/internal/misc/Unsafe"), accessFlags := 24, slot := 0, constantValue := 0 }, { name := "BIG_ENDIAN", type := .boolean, accessFlags := 26, slot := 1, constantValue := 0 }, { name := "LOG2_ARRAY_BOOLEAN_INDEX_SCALE", type := .int, accessFlags := 25, slot := 2, constantValue := 0 }, { name := "LOG2_ARRAY_BYTE_INDEX_SCALE", type := .int, accessFlags := 25, slot := 3, constantValue := 0 }, { name := "LOG2_ARRAY_CHAR_INDEX_SCALE", type := .int, accessFlags := 25, slot := 4, constantValue := 0 }, { name := "LOG2_ARRAY_SHORT_INDEX_SCALE", type := .int, accessFlags := 25, slot := 5, constantValue := 0 }, { name := "LOG2_ARRAY_INT_INDEX_SCALE", type := .int, accessFlags := 25, slot := 6, constantValue := 0 }, { name := "LOG2_ARRAY_LONG_INDEX_SCALE", type := .int, accessFlags := 25, slot := 7, constantValue := 0 }, { name := "LOG2_ARRAY_FLOAT_INDEX_SCALE", type := .int, accessFlags := 25, slot := 8, constantValue := 0 }, { name := "LOG2_ARRAY_DOUBLE_INDEX_SCALE", type := .int, accessFlags := 25, slot := 9, constantValue := 0 }, { name := "LOG2_BYTE_BIT_SIZE", type := .int, accessFlags := 26, slot := 10, constantValue := 0 }, { name := "T_BOOLEAN", type := .int, accessFlags := 25, slot := 11, constantValue := 0 }, { name := "T_CHAR", type := .int, accessFlags := 25, slot := 12, constantValue := 0 }, { name := "T_FLOAT", type := .int, accessFlags := 25, slot := 13, constantValue := 0 }, { name := "T_DOUBLE", type := .int, accessFlags := 25, slot := 14, constantValue := 0 }, { name := "T_BYTE", type := .int, accessFlags := 25, slot := 15, constantValue := 0 }, { name := "T_SHORT", type := .int, accessFlags := 25, slot := 16, constantValue := 0 }, { name := "T_INT", type := .int, accessFlags := 25, slot := 17, constantValue := 0 }, { name := "T_LONG", type := .int, accessFlags := 25, slot := 18, constantValue := 0 }, { name := "JLA", type := (.object "jdk/internal/access/JavaLangAccess"), accessFlags := 26, slot := 19, constantValue := 0 }, { name := "SOFT_MAX_ARRAY_LENGTH", type := .int, accessFlags := 25, slot := 20, constantValue := 0 }]
  methods := #[k36m0]
  instanceTypes := #[]
  staticTypes := #[(.object "jdk/internal/misc/Unsafe"), .boolean, .int, .int, .int, .int, .int, .int, .int, .int, .int, .int, .int, .int, .int, .int, .int, .int, .int, (.object "jdk/internal/access/JavaLangAccess"), .int]
  resolved := Array.replicate 378 none
  statics := none }

def pool37 : Array CpInfo := pool [(1, u "java/lang/Class"), (0, .class_ 1), (0, u "java/lang/Object"), (0, .class_ 3)] 0

/-- java/lang/Class -/
def k37 : Class := { plain "java/lang/Class" (some 0) with
  accessFlags := 49
  interfaces := #[]
  cf := some (fileOf pool37 2 #[] #[] 49 4 #[] #[])
  fields := #[]
  methods := #[]
  instanceTypes := #[]
  staticTypes := #[]
  resolved := Array.replicate 5 none
  statics := none }

/-- the primitive byte -/
def k38 : Class := { plain "byte" none with kind := .primitive 'B', accessFlags := 0x411 }
/-- [B -/
def k39 : Class := { plain "[B" (some 0) with kind := .array 38 .byte, interfaces := #[24, 2], accessFlags := 1041 }

/-- the primitive char -/
def k40 : Class := { plain "char" none with kind := .primitive 'C', accessFlags := 0x411 }
/-- [C -/
def k41 : Class := { plain "[C" (some 0) with kind := .array 40 .char, interfaces := #[24, 2], accessFlags := 1041 }

/-- the primitive int -/
def k42 : Class := { plain "int" none with kind := .primitive 'I', accessFlags := 0x411 }
/-- [I -/
def k43 : Class := { plain "[I" (some 0) with kind := .array 42 .int, interfaces := #[24, 2], accessFlags := 1041 }

/-- [Ljava/lang/Integer; -/
def k44 : Class := { plain "[Ljava/lang/Integer;" (some 0) with kind := .array 27 (.object "java/lang/Integer"), interfaces := #[24, 2], accessFlags := 1041 }

/-- [Ljava/lang/Object; -/
def k45 : Class := { plain "[Ljava/lang/Object;" (some 0) with kind := .array 0 (.object "java/lang/Object"), interfaces := #[24, 2], accessFlags := 1041, mirror := some 7 }

def heap : Heap := #[{ cls := 7, slots := #[.long 0, .int 1, .null, .int 0, .null, .int 0, .int 0], vm := .statics 7 },
  { cls := 14, slots := #[.long 0, .int 0, .null, .ref 276, .ref 273, .null, .null, .null, .int 0, .int 1], vm := .statics 14 },
  { cls := 21, slots := #[.ref 266, .ref 267, .ref 268, .null], vm := .statics 21 },
  { cls := 22, slots := #[.ref 269, .ref 270, .null, .null, .null, .null, .null, .null, .null, .null, .ref 271, .ref 272, .null], vm := .statics 22 },
  { cls := 25, slots := #[.long 0, .int 0, .ref 274, .ref 275], vm := .statics 25 },
  { cls := 28, slots := #[.int 0, .int 127, .ref 8, .null, .int 0], vm := .statics 28 },
  { cls := 35, slots := #[.null, .null, .null], vm := .statics 35 },
  { cls := 37, slots := #[], vm := .mirror 45 },
  { cls := 44, slots := #[.ref 10, .ref 11, .ref 12, .ref 13, .ref 14, .ref 15, .ref 16, .ref 17, .ref 18, .ref 19, .ref 20, .ref 21, .ref 22, .ref 23, .ref 24, .ref 25, .ref 26, .ref 27, .ref 28, .ref 29, .ref 30, .ref 31, .ref 32, .ref 33, .ref 34, .ref 35, .ref 36, .ref 37, .ref 38, .ref 39, .ref 40, .ref 41, .ref 42, .ref 43, .ref 44, .ref 45, .ref 46, .ref 47, .ref 48, .ref 49, .ref 50, .ref 51, .ref 52, .ref 53, .ref 54, .ref 55, .ref 56, .ref 57, .ref 58, .ref 59, .ref 60, .ref 61, .ref 62, .ref 63, .ref 64, .ref 65, .ref 66, .ref 67, .ref 68, .ref 69, .ref 70, .ref 71, .ref 72, .ref 73, .ref 74, .ref 75, .ref 76, .ref 77, .ref 78, .ref 79, .ref 80, .ref 81, .ref 82, .ref 83, .ref 84, .ref 85, .ref 86, .ref 87, .ref 88, .ref 89, .ref 90, .ref 91, .ref 92, .ref 93, .ref 94, .ref 95, .ref 96, .ref 97, .ref 98, .ref 99, .ref 100, .ref 101, .ref 102, .ref 103, .ref 104, .ref 105, .ref 106, .ref 107, .ref 108, .ref 109, .ref 110, .ref 111, .ref 112, .ref 113, .ref 114, .ref 115, .ref 116, .ref 117, .ref 118, .ref 119, .ref 120, .ref 121, .ref 122, .ref 123, .ref 124, .ref 125, .ref 126, .ref 127, .ref 128, .ref 129, .ref 130, .ref 131, .ref 132, .ref 133, .ref 134, .ref 135, .ref 136, .ref 137, .ref 138, .ref 139, .ref 140, .ref 141, .ref 142, .ref 143, .ref 144, .ref 145, .ref 146, .ref 147, .ref 148, .ref 149, .ref 150, .ref 151, .ref 152, .ref 153, .ref 154, .ref 155, .ref 156, .ref 157, .ref 158, .ref 159, .ref 160, .ref 161, .ref 162, .ref 163, .ref 164, .ref 165, .ref 166, .ref 167, .ref 168, .ref 169, .ref 170, .ref 171, .ref 172, .ref 173, .ref 174, .ref 175, .ref 176, .ref 177, .ref 178, .ref 179, .ref 180, .ref 181, .ref 182, .ref 183, .ref 184, .ref 185, .ref 186, .ref 187, .ref 188, .ref 189, .ref 190, .ref 191, .ref 192, .ref 193, .ref 194, .ref 195, .ref 196, .ref 197, .ref 198, .ref 199, .ref 200, .ref 201, .ref 202, .ref 203, .ref 204, .ref 205, .ref 206, .ref 207, .ref 208, .ref 209, .ref 210, .ref 211, .ref 212, .ref 213, .ref 214, .ref 215, .ref 216, .ref 217, .ref 218, .ref 219, .ref 220, .ref 221, .ref 222, .ref 223, .ref 224, .ref 225, .ref 226, .ref 227, .ref 228, .ref 229, .ref 230, .ref 231, .ref 232, .ref 233, .ref 234, .ref 235, .ref 236, .ref 237, .ref 238, .ref 239, .ref 240, .ref 241, .ref 242, .ref 243, .ref 244, .ref 245, .ref 246, .ref 247, .ref 248, .ref 249, .ref 250, .ref 251, .ref 252, .ref 253, .ref 254, .ref 255, .ref 256, .ref 257, .ref 258, .ref 259, .ref 260, .ref 261, .ref 262, .ref 263, .ref 264, .ref 265], vm := .none },
  { cls := 45, slots := #[], vm := .none },
  { cls := 27, slots := #[.int (-128)], vm := .none },
  { cls := 27, slots := #[.int (-127)], vm := .none },
  { cls := 27, slots := #[.int (-126)], vm := .none },
  { cls := 27, slots := #[.int (-125)], vm := .none },
  { cls := 27, slots := #[.int (-124)], vm := .none },
  { cls := 27, slots := #[.int (-123)], vm := .none },
  { cls := 27, slots := #[.int (-122)], vm := .none },
  { cls := 27, slots := #[.int (-121)], vm := .none },
  { cls := 27, slots := #[.int (-120)], vm := .none },
  { cls := 27, slots := #[.int (-119)], vm := .none },
  { cls := 27, slots := #[.int (-118)], vm := .none },
  { cls := 27, slots := #[.int (-117)], vm := .none },
  { cls := 27, slots := #[.int (-116)], vm := .none },
  { cls := 27, slots := #[.int (-115)], vm := .none },
  { cls := 27, slots := #[.int (-114)], vm := .none },
  { cls := 27, slots := #[.int (-113)], vm := .none },
  { cls := 27, slots := #[.int (-112)], vm := .none },
  { cls := 27, slots := #[.int (-111)], vm := .none },
  { cls := 27, slots := #[.int (-110)], vm := .none },
  { cls := 27, slots := #[.int (-109)], vm := .none },
  { cls := 27, slots := #[.int (-108)], vm := .none },
  { cls := 27, slots := #[.int (-107)], vm := .none },
  { cls := 27, slots := #[.int (-106)], vm := .none },
  { cls := 27, slots := #[.int (-105)], vm := .none },
  { cls := 27, slots := #[.int (-104)], vm := .none },
  { cls := 27, slots := #[.int (-103)], vm := .none },
  { cls := 27, slots := #[.int (-102)], vm := .none },
  { cls := 27, slots := #[.int (-101)], vm := .none },
  { cls := 27, slots := #[.int (-100)], vm := .none },
  { cls := 27, slots := #[.int (-99)], vm := .none },
  { cls := 27, slots := #[.int (-98)], vm := .none },
  { cls := 27, slots := #[.int (-97)], vm := .none },
  { cls := 27, slots := #[.int (-96)], vm := .none },
  { cls := 27, slots := #[.int (-95)], vm := .none },
  { cls := 27, slots := #[.int (-94)], vm := .none },
  { cls := 27, slots := #[.int (-93)], vm := .none },
  { cls := 27, slots := #[.int (-92)], vm := .none },
  { cls := 27, slots := #[.int (-91)], vm := .none },
  { cls := 27, slots := #[.int (-90)], vm := .none },
  { cls := 27, slots := #[.int (-89)], vm := .none },
  { cls := 27, slots := #[.int (-88)], vm := .none },
  { cls := 27, slots := #[.int (-87)], vm := .none },
  { cls := 27, slots := #[.int (-86)], vm := .none },
  { cls := 27, slots := #[.int (-85)], vm := .none },
  { cls := 27, slots := #[.int (-84)], vm := .none },
  { cls := 27, slots := #[.int (-83)], vm := .none },
  { cls := 27, slots := #[.int (-82)], vm := .none },
  { cls := 27, slots := #[.int (-81)], vm := .none },
  { cls := 27, slots := #[.int (-80)], vm := .none },
  { cls := 27, slots := #[.int (-79)], vm := .none },
  { cls := 27, slots := #[.int (-78)], vm := .none },
  { cls := 27, slots := #[.int (-77)], vm := .none },
  { cls := 27, slots := #[.int (-76)], vm := .none },
  { cls := 27, slots := #[.int (-75)], vm := .none },
  { cls := 27, slots := #[.int (-74)], vm := .none },
  { cls := 27, slots := #[.int (-73)], vm := .none },
  { cls := 27, slots := #[.int (-72)], vm := .none },
  { cls := 27, slots := #[.int (-71)], vm := .none },
  { cls := 27, slots := #[.int (-70)], vm := .none },
  { cls := 27, slots := #[.int (-69)], vm := .none },
  { cls := 27, slots := #[.int (-68)], vm := .none },
  { cls := 27, slots := #[.int (-67)], vm := .none },
  { cls := 27, slots := #[.int (-66)], vm := .none },
  { cls := 27, slots := #[.int (-65)], vm := .none },
  { cls := 27, slots := #[.int (-64)], vm := .none },
  { cls := 27, slots := #[.int (-63)], vm := .none },
  { cls := 27, slots := #[.int (-62)], vm := .none },
  { cls := 27, slots := #[.int (-61)], vm := .none },
  { cls := 27, slots := #[.int (-60)], vm := .none },
  { cls := 27, slots := #[.int (-59)], vm := .none },
  { cls := 27, slots := #[.int (-58)], vm := .none },
  { cls := 27, slots := #[.int (-57)], vm := .none },
  { cls := 27, slots := #[.int (-56)], vm := .none },
  { cls := 27, slots := #[.int (-55)], vm := .none },
  { cls := 27, slots := #[.int (-54)], vm := .none },
  { cls := 27, slots := #[.int (-53)], vm := .none },
  { cls := 27, slots := #[.int (-52)], vm := .none },
  { cls := 27, slots := #[.int (-51)], vm := .none },
  { cls := 27, slots := #[.int (-50)], vm := .none },
  { cls := 27, slots := #[.int (-49)], vm := .none },
  { cls := 27, slots := #[.int (-48)], vm := .none },
  { cls := 27, slots := #[.int (-47)], vm := .none },
  { cls := 27, slots := #[.int (-46)], vm := .none },
  { cls := 27, slots := #[.int (-45)], vm := .none },
  { cls := 27, slots := #[.int (-44)], vm := .none },
  { cls := 27, slots := #[.int (-43)], vm := .none },
  { cls := 27, slots := #[.int (-42)], vm := .none },
  { cls := 27, slots := #[.int (-41)], vm := .none },
  { cls := 27, slots := #[.int (-40)], vm := .none },
  { cls := 27, slots := #[.int (-39)], vm := .none },
  { cls := 27, slots := #[.int (-38)], vm := .none },
  { cls := 27, slots := #[.int (-37)], vm := .none },
  { cls := 27, slots := #[.int (-36)], vm := .none },
  { cls := 27, slots := #[.int (-35)], vm := .none },
  { cls := 27, slots := #[.int (-34)], vm := .none },
  { cls := 27, slots := #[.int (-33)], vm := .none },
  { cls := 27, slots := #[.int (-32)], vm := .none },
  { cls := 27, slots := #[.int (-31)], vm := .none },
  { cls := 27, slots := #[.int (-30)], vm := .none },
  { cls := 27, slots := #[.int (-29)], vm := .none },
  { cls := 27, slots := #[.int (-28)], vm := .none },
  { cls := 27, slots := #[.int (-27)], vm := .none },
  { cls := 27, slots := #[.int (-26)], vm := .none },
  { cls := 27, slots := #[.int (-25)], vm := .none },
  { cls := 27, slots := #[.int (-24)], vm := .none },
  { cls := 27, slots := #[.int (-23)], vm := .none },
  { cls := 27, slots := #[.int (-22)], vm := .none },
  { cls := 27, slots := #[.int (-21)], vm := .none },
  { cls := 27, slots := #[.int (-20)], vm := .none },
  { cls := 27, slots := #[.int (-19)], vm := .none },
  { cls := 27, slots := #[.int (-18)], vm := .none },
  { cls := 27, slots := #[.int (-17)], vm := .none },
  { cls := 27, slots := #[.int (-16)], vm := .none },
  { cls := 27, slots := #[.int (-15)], vm := .none },
  { cls := 27, slots := #[.int (-14)], vm := .none },
  { cls := 27, slots := #[.int (-13)], vm := .none },
  { cls := 27, slots := #[.int (-12)], vm := .none },
  { cls := 27, slots := #[.int (-11)], vm := .none },
  { cls := 27, slots := #[.int (-10)], vm := .none },
  { cls := 27, slots := #[.int (-9)], vm := .none },
  { cls := 27, slots := #[.int (-8)], vm := .none },
  { cls := 27, slots := #[.int (-7)], vm := .none },
  { cls := 27, slots := #[.int (-6)], vm := .none },
  { cls := 27, slots := #[.int (-5)], vm := .none },
  { cls := 27, slots := #[.int (-4)], vm := .none },
  { cls := 27, slots := #[.int (-3)], vm := .none },
  { cls := 27, slots := #[.int (-2)], vm := .none },
  { cls := 27, slots := #[.int (-1)], vm := .none },
  { cls := 27, slots := #[.int (0)], vm := .none },
  { cls := 27, slots := #[.int (1)], vm := .none },
  { cls := 27, slots := #[.int (2)], vm := .none },
  { cls := 27, slots := #[.int (3)], vm := .none },
  { cls := 27, slots := #[.int (4)], vm := .none },
  { cls := 27, slots := #[.int (5)], vm := .none },
  { cls := 27, slots := #[.int (6)], vm := .none },
  { cls := 27, slots := #[.int (7)], vm := .none },
  { cls := 27, slots := #[.int (8)], vm := .none },
  { cls := 27, slots := #[.int (9)], vm := .none },
  { cls := 27, slots := #[.int (10)], vm := .none },
  { cls := 27, slots := #[.int (11)], vm := .none },
  { cls := 27, slots := #[.int (12)], vm := .none },
  { cls := 27, slots := #[.int (13)], vm := .none },
  { cls := 27, slots := #[.int (14)], vm := .none },
  { cls := 27, slots := #[.int (15)], vm := .none },
  { cls := 27, slots := #[.int (16)], vm := .none },
  { cls := 27, slots := #[.int (17)], vm := .none },
  { cls := 27, slots := #[.int (18)], vm := .none },
  { cls := 27, slots := #[.int (19)], vm := .none },
  { cls := 27, slots := #[.int (20)], vm := .none },
  { cls := 27, slots := #[.int (21)], vm := .none },
  { cls := 27, slots := #[.int (22)], vm := .none },
  { cls := 27, slots := #[.int (23)], vm := .none },
  { cls := 27, slots := #[.int (24)], vm := .none },
  { cls := 27, slots := #[.int (25)], vm := .none },
  { cls := 27, slots := #[.int (26)], vm := .none },
  { cls := 27, slots := #[.int (27)], vm := .none },
  { cls := 27, slots := #[.int (28)], vm := .none },
  { cls := 27, slots := #[.int (29)], vm := .none },
  { cls := 27, slots := #[.int (30)], vm := .none },
  { cls := 27, slots := #[.int (31)], vm := .none },
  { cls := 27, slots := #[.int (32)], vm := .none },
  { cls := 27, slots := #[.int (33)], vm := .none },
  { cls := 27, slots := #[.int (34)], vm := .none },
  { cls := 27, slots := #[.int (35)], vm := .none },
  { cls := 27, slots := #[.int (36)], vm := .none },
  { cls := 27, slots := #[.int (37)], vm := .none },
  { cls := 27, slots := #[.int (38)], vm := .none },
  { cls := 27, slots := #[.int (39)], vm := .none },
  { cls := 27, slots := #[.int (40)], vm := .none },
  { cls := 27, slots := #[.int (41)], vm := .none },
  { cls := 27, slots := #[.int (42)], vm := .none },
  { cls := 27, slots := #[.int (43)], vm := .none },
  { cls := 27, slots := #[.int (44)], vm := .none },
  { cls := 27, slots := #[.int (45)], vm := .none },
  { cls := 27, slots := #[.int (46)], vm := .none },
  { cls := 27, slots := #[.int (47)], vm := .none },
  { cls := 27, slots := #[.int (48)], vm := .none },
  { cls := 27, slots := #[.int (49)], vm := .none },
  { cls := 27, slots := #[.int (50)], vm := .none },
  { cls := 27, slots := #[.int (51)], vm := .none },
  { cls := 27, slots := #[.int (52)], vm := .none },
  { cls := 27, slots := #[.int (53)], vm := .none },
  { cls := 27, slots := #[.int (54)], vm := .none },
  { cls := 27, slots := #[.int (55)], vm := .none },
  { cls := 27, slots := #[.int (56)], vm := .none },
  { cls := 27, slots := #[.int (57)], vm := .none },
  { cls := 27, slots := #[.int (58)], vm := .none },
  { cls := 27, slots := #[.int (59)], vm := .none },
  { cls := 27, slots := #[.int (60)], vm := .none },
  { cls := 27, slots := #[.int (61)], vm := .none },
  { cls := 27, slots := #[.int (62)], vm := .none },
  { cls := 27, slots := #[.int (63)], vm := .none },
  { cls := 27, slots := #[.int (64)], vm := .none },
  { cls := 27, slots := #[.int (65)], vm := .none },
  { cls := 27, slots := #[.int (66)], vm := .none },
  { cls := 27, slots := #[.int (67)], vm := .none },
  { cls := 27, slots := #[.int (68)], vm := .none },
  { cls := 27, slots := #[.int (69)], vm := .none },
  { cls := 27, slots := #[.int (70)], vm := .none },
  { cls := 27, slots := #[.int (71)], vm := .none },
  { cls := 27, slots := #[.int (72)], vm := .none },
  { cls := 27, slots := #[.int (73)], vm := .none },
  { cls := 27, slots := #[.int (74)], vm := .none },
  { cls := 27, slots := #[.int (75)], vm := .none },
  { cls := 27, slots := #[.int (76)], vm := .none },
  { cls := 27, slots := #[.int (77)], vm := .none },
  { cls := 27, slots := #[.int (78)], vm := .none },
  { cls := 27, slots := #[.int (79)], vm := .none },
  { cls := 27, slots := #[.int (80)], vm := .none },
  { cls := 27, slots := #[.int (81)], vm := .none },
  { cls := 27, slots := #[.int (82)], vm := .none },
  { cls := 27, slots := #[.int (83)], vm := .none },
  { cls := 27, slots := #[.int (84)], vm := .none },
  { cls := 27, slots := #[.int (85)], vm := .none },
  { cls := 27, slots := #[.int (86)], vm := .none },
  { cls := 27, slots := #[.int (87)], vm := .none },
  { cls := 27, slots := #[.int (88)], vm := .none },
  { cls := 27, slots := #[.int (89)], vm := .none },
  { cls := 27, slots := #[.int (90)], vm := .none },
  { cls := 27, slots := #[.int (91)], vm := .none },
  { cls := 27, slots := #[.int (92)], vm := .none },
  { cls := 27, slots := #[.int (93)], vm := .none },
  { cls := 27, slots := #[.int (94)], vm := .none },
  { cls := 27, slots := #[.int (95)], vm := .none },
  { cls := 27, slots := #[.int (96)], vm := .none },
  { cls := 27, slots := #[.int (97)], vm := .none },
  { cls := 27, slots := #[.int (98)], vm := .none },
  { cls := 27, slots := #[.int (99)], vm := .none },
  { cls := 27, slots := #[.int (100)], vm := .none },
  { cls := 27, slots := #[.int (101)], vm := .none },
  { cls := 27, slots := #[.int (102)], vm := .none },
  { cls := 27, slots := #[.int (103)], vm := .none },
  { cls := 27, slots := #[.int (104)], vm := .none },
  { cls := 27, slots := #[.int (105)], vm := .none },
  { cls := 27, slots := #[.int (106)], vm := .none },
  { cls := 27, slots := #[.int (107)], vm := .none },
  { cls := 27, slots := #[.int (108)], vm := .none },
  { cls := 27, slots := #[.int (109)], vm := .none },
  { cls := 27, slots := #[.int (110)], vm := .none },
  { cls := 27, slots := #[.int (111)], vm := .none },
  { cls := 27, slots := #[.int (112)], vm := .none },
  { cls := 27, slots := #[.int (113)], vm := .none },
  { cls := 27, slots := #[.int (114)], vm := .none },
  { cls := 27, slots := #[.int (115)], vm := .none },
  { cls := 27, slots := #[.int (116)], vm := .none },
  { cls := 27, slots := #[.int (117)], vm := .none },
  { cls := 27, slots := #[.int (118)], vm := .none },
  { cls := 27, slots := #[.int (119)], vm := .none },
  { cls := 27, slots := #[.int (120)], vm := .none },
  { cls := 27, slots := #[.int (121)], vm := .none },
  { cls := 27, slots := #[.int (122)], vm := .none },
  { cls := 27, slots := #[.int (123)], vm := .none },
  { cls := 27, slots := #[.int (124)], vm := .none },
  { cls := 27, slots := #[.int (125)], vm := .none },
  { cls := 27, slots := #[.int (126)], vm := .none },
  { cls := 27, slots := #[.int (127)], vm := .none },
  { cls := 21, slots := #[.null, .int 0, .int 0, .null], vm := .none },
  { cls := 21, slots := #[.null, .int 0, .int 0, .null], vm := .none },
  { cls := 21, slots := #[.null, .int 0, .int 0, .null], vm := .none },
  { cls := 22, slots := #[.null, .int 0, .int 0], vm := .none },
  { cls := 22, slots := #[.null, .int 0, .int 0], vm := .none },
  { cls := 22, slots := #[.null, .int 0, .int 0], vm := .none },
  { cls := 22, slots := #[.null, .int 0, .int 0], vm := .none },
  { cls := 19, slots := #[.ref 9, .int 0], vm := .none },
  { cls := 45, slots := #[], vm := .none },
  { cls := 45, slots := #[], vm := .none },
  { cls := 0, slots := #[], vm := .none }]
def classes : Array Class := #[k0, k1, k2, k3, k4, k5, k6, k7, k8, k9, k10, k11, k12, k13, k14, k15, k16, k17, k18, k19, k20, k21, k22, k23, k24, k25, k26, k27, k28, k29, k30, k31, k32, k33, k34, k35, k36, k37, k38, k39, k40, k41, k42, k43, k44, k45]
def interned : List (Array UInt16 × Addr) := []
def slotsUsed : Nat := 584
def theMethod : MethodId := ⟨1, 2⟩
def args0 : Array Value := #[.int 5, .int 6, .int 7, .int 2, .int 3, .int 4]
def aboutOver (below : List Frame) : State where
  vm := { classes := classes, interned := interned.toArray }
  heap := heap
  slotsUsed := slotsUsed
  threads := #[{ frames := .invoking theMethod args0 :: below }]
def below0 : List Frame := [.native { method := ⟨0, 0⟩, args := #[] }]
def about1 : State := aboutOver below0
def p0 : Program := .bare "" "" ""
def e0 : Env := launch0.env 0 0 0
theorem w_frames : about1.frames = Frame.invoking theMethod args0 :: below0 := rfl
set_option maxRecDepth 65536 in
theorem w_args : argsFit about1.vm theMethod args0 = true := by decide +kernel
set_option maxRecDepth 65536 in
theorem w_heap : heapFits about1 = true := by decide +kernel
set_option maxRecDepth 65536 in
theorem w_runnable : about1.curStatus? = some .runnable := by decide +kernel
set_option maxRecDepth 65536 in
theorem w_alone : about1.alone = true := by decide +kernel
set_option maxRecDepth 65536 in
theorem w_named : about1.methodNamed? x = some theMethod := by decide +kernel
set_option maxRecDepth 65536 in
theorem w_hears : about1.hears theMethod below0 = true := by decide +kernel
set_option maxRecDepth 65536 in
theorem w_ripe : about1.ripe theMethod args0 below0 = true := by decide +kernel
theorem w_running : about1.status = .running := rfl
set_option maxRecDepth 65536 in
theorem w_room : about1.hasRoom e0.platform room_1 = true :=
  launch0.hasRoom_least _ room_1 (by decide +kernel) (by decide +kernel) (by decide +kernel) (by decide +kernel) (by decide +kernel) (by decide +kernel)
theorem allAtoms_all (ts : List Jvm.Cond) (a : Array Jvm.Value) (st : Jvm.State) : (allAtoms ts).before a st = ts.all (fun c => c.before a st) := by
  induction ts with
  | nil => rfl
  | cons c t ih =>
    show (Jvm.Cond.and c (allAtoms t)).before a st = _
    rw [Jvm.Cond.before_and, ih, List.all_cons]
def words1 : List Jvm.Cond := Jvm.Cond.code x code maxLocals ret :: tables_1
/-- a 'code' word, met by the world's own term for the bytes: nothing is compared byte by byte -/
theorem code_word {y : MethodName} {bytes : ByteArray} {mx : Nat} {rt : Option FieldType} {a : Array Value} {s : State} {m : MethodId} {meth : Method} {c : Code} (h1 : s.methodNamed? y = some m) (h2 : s.vm.method? m = some meth) (h3 : meth.code = some c) (h4 : c.code = bytes)
    (h5 : (c.maxLocals == mx && c.exceptionTable.isEmpty && decide (c.maxStack ≤ mostOperands) && decide (meth.sig.returnType = rt) && !meth.locks && decide (parseMethodDescriptor y.desc = some meth.sig)) = true) : (Jvm.Cond.code y bytes mx rt).before a s = true := by
  simp only [Bool.and_eq_true, beq_iff_eq, Bool.not_eq_true', decide_eq_true_eq] at h5
  obtain ⟨⟨⟨⟨⟨g1, g2⟩, g3⟩, g4⟩, g5⟩, g6⟩ := h5
  simp [Cond.before, Cond.holds, Cond.value, h1, h2, h3, h4, g1, g2, g3, g4, g5, g6]
def isCode : Jvm.Cond → Bool
  | .code _ _ _ _ => true
  | _ => false
theorem all_split {L : List Jvm.Cond} {P : Jvm.Cond → Bool} (h1 : L.all (fun c => isCode c || P c) = true) (h2 : ∀ c ∈ L.filter isCode, P c = true) : L.all P = true := by
  refine List.all_eq_true.mpr fun c hc => ?_
  have h := List.all_eq_true.mp h1 c hc
  rcases Bool.eq_false_or_eq_true (isCode c) with hi | hi
  · exact h2 c (List.mem_filter.mpr ⟨hc, hi⟩)
  · simpa [hi] using h
set_option maxRecDepth 65536 in
theorem w_c0 : (Jvm.Cond.code x code maxLocals ret).before args0 about1 = true := code_word (m := ⟨1, 2⟩) (meth := k1m2) (c := k1c2) (by decide +kernel) rfl rfl rfl (by decide +kernel)
set_option maxRecDepth 65536 in
theorem w_c1 : (Jvm.Cond.code ({ cls := "com/example/resolve_place/resolveplace/parser/ParsedQueryIsLocalPinLaw", name := "drawn", desc := "(I)Ljava/lang/String;" } : Jvm.MethodName) method_2_code (2 : Nat) (Option.some (Jvm.ClassFile.FieldType.object "java/lang/String"))).before args0 about1 = true := code_word (m := ⟨1, 1⟩) (meth := k1m1) (c := k1c1) (by decide +kernel) rfl rfl rfl (by decide +kernel)
set_option maxRecDepth 65536 in
theorem w_c2 : (Jvm.Cond.code ({ cls := "java/lang/String", name := "<init>", desc := "([C)V" } : Jvm.MethodName) jdk_42_method_3_code (2 : Nat) (Option.none : Option Jvm.ClassFile.FieldType)).before args0 about1 = true := code_word (m := ⟨7, 1⟩) (meth := k7m1) (c := k7c1) (by decide +kernel) rfl rfl rfl (by decide +kernel)
set_option maxRecDepth 65536 in
theorem w_c3 : (Jvm.Cond.code ({ cls := "java/lang/String", name := "<init>", desc := "([CIILjava/lang/Void;)V" } : Jvm.MethodName) jdk_42_method_149_code (6 : Nat) (Option.none : Option Jvm.ClassFile.FieldType)).before args0 about1 = true := code_word (m := ⟨7, 3⟩) (meth := k7m3) (c := k7c3) (by decide +kernel) rfl rfl rfl (by decide +kernel)
set_option maxRecDepth 65536 in
theorem w_c4 : (Jvm.Cond.code ({ cls := "java/lang/Object", name := "<init>", desc := "()V" } : Jvm.MethodName) object_method_1_code (1 : Nat) (Option.none : Option Jvm.ClassFile.FieldType)).before args0 about1 = true := code_word (m := ⟨0, 0⟩) (meth := k0m0) (c := k0c0) (by decide +kernel) rfl rfl rfl (by decide +kernel)
set_option maxRecDepth 65536 in
theorem w_c5 : (Jvm.Cond.code ({ cls := "com/example/resolve_place/resolveplace/parser/ParsedQuery", name := "notLocal", desc := "(Ljava/lang/String;)Lcom/example/resolve_place/resolveplace/parser/ParsedQuery;" } : Jvm.MethodName) prog_30_method_3_code (1 : Nat) (Option.some (Jvm.ClassFile.FieldType.object "com/example/resolve_place/resolveplace/parser/ParsedQuery"))).before args0 about1 = true := code_word (m := ⟨8, 2⟩) (meth := k8m2) (c := k8c2) (by decide +kernel) rfl rfl rfl (by decide +kernel)
set_option maxRecDepth 65536 in
theorem w_c6 : (Jvm.Cond.code ({ cls := "com/example/resolve_place/resolveplace/parser/ParsedQuery", name := "<init>", desc := "(Ljava/lang/String;)V" } : Jvm.MethodName) prog_30_method_2_code (2 : Nat) (Option.none : Option Jvm.ClassFile.FieldType)).before args0 about1 = true := code_word (m := ⟨8, 1⟩) (meth := k8m1) (c := k8c1) (by decide +kernel) rfl rfl rfl (by decide +kernel)
set_option maxRecDepth 65536 in
theorem w_c7 : (Jvm.Cond.code ({ cls := "java/util/Objects", name := "requireNonNull", desc := "(Ljava/lang/Object;Ljava/lang/String;)Ljava/lang/Object;" } : Jvm.MethodName) jdk_31_method_11_code (2 : Nat) (Option.some (Jvm.ClassFile.FieldType.object "java/lang/Object"))).before args0 about1 = true := code_word (m := ⟨9, 2⟩) (meth := k9m2) (c := k9c2) (by decide +kernel) rfl rfl rfl (by decide +kernel)
set_option maxRecDepth 65536 in
theorem w_c8 : (Jvm.Cond.code ({ cls := "java/util/List", name := "of", desc := "()Ljava/util/List;" } : Jvm.MethodName) jdk_40_method_36_code (0 : Nat) (Option.some (Jvm.ClassFile.FieldType.object "java/util/List"))).before args0 about1 = true := code_word (m := ⟨13, 2⟩) (meth := k13m2) (c := k13c2) (by decide +kernel) rfl rfl rfl (by decide +kernel)
set_option maxRecDepth 65536 in
theorem w_c9 : (Jvm.Cond.code ({ cls := "com/example/resolve_place/resolveplace/parser/ParsedQuery", name := "isLocal", desc := "()Z" } : Jvm.MethodName) prog_30_method_5_code (1 : Nat) (Option.some Jvm.ClassFile.FieldType.boolean)).before args0 about1 = true := code_word (m := ⟨8, 3⟩) (meth := k8m3) (c := k8c3) (by decide +kernel) rfl rfl rfl (by decide +kernel)
set_option maxRecDepth 65536 in
theorem w_c10 : (Jvm.Cond.code ({ cls := "java/util/ImmutableCollections$ListN", name := "isEmpty", desc := "()Z" } : Jvm.MethodName) jdk_45_method_2_code (1 : Nat) (Option.some Jvm.ClassFile.FieldType.boolean)).before args0 about1 = true := code_word (m := ⟨19, 1⟩) (meth := k19m1) (c := k19c1) (by decide +kernel) rfl rfl rfl (by decide +kernel)
set_option maxRecDepth 65536 in
theorem w_c11 : (Jvm.Cond.code ({ cls := "com/example/resolve_place/resolveplace/parser/ParsedQuery", name := "places", desc := "()Ljava/util/List;" } : Jvm.MethodName) prog_30_method_9_code (1 : Nat) (Option.some (Jvm.ClassFile.FieldType.object "java/util/List"))).before args0 about1 = true := code_word (m := ⟨8, 4⟩) (meth := k8m4) (c := k8c4) (by decide +kernel) rfl rfl rfl (by decide +kernel)
set_option maxRecDepth 65536 in
theorem w_c12 : (Jvm.Cond.code ({ cls := "java/util/ArrayList", name := "<init>", desc := "()V" } : Jvm.MethodName) jdk_38_method_2_code (1 : Nat) (Option.none : Option Jvm.ClassFile.FieldType)).before args0 about1 = true := code_word (m := ⟨25, 0⟩) (meth := k25m0) (c := k25c0) (by decide +kernel) rfl rfl rfl (by decide +kernel)
set_option maxRecDepth 65536 in
theorem w_c13 : (Jvm.Cond.code ({ cls := "java/util/AbstractList", name := "<init>", desc := "()V" } : Jvm.MethodName) jdk_39_method_1_code (1 : Nat) (Option.none : Option Jvm.ClassFile.FieldType)).before args0 about1 = true := code_word (m := ⟨23, 0⟩) (meth := k23m0) (c := k23c0) (by decide +kernel) rfl rfl rfl (by decide +kernel)
set_option maxRecDepth 65536 in
theorem w_c14 : (Jvm.Cond.code ({ cls := "java/util/AbstractCollection", name := "<init>", desc := "()V" } : Jvm.MethodName) jdk_22_method_1_code (1 : Nat) (Option.none : Option Jvm.ClassFile.FieldType)).before args0 about1 = true := code_word (m := ⟨15, 0⟩) (meth := k15m0) (c := k15c0) (by decide +kernel) rfl rfl rfl (by decide +kernel)
set_option maxRecDepth 65536 in
theorem w_c15 : (Jvm.Cond.code ({ cls := "java/lang/Integer", name := "valueOf", desc := "(I)Ljava/lang/Integer;" } : Jvm.MethodName) jdk_33_method_22_code (1 : Nat) (Option.some (Jvm.ClassFile.FieldType.object "java/lang/Integer"))).before args0 about1 = true := code_word (m := ⟨27, 0⟩) (meth := k27m0) (c := k27c0) (by decide +kernel) rfl rfl rfl (by decide +kernel)
set_option maxRecDepth 65536 in
theorem w_c16 : (Jvm.Cond.code ({ cls := "java/lang/Integer", name := "<init>", desc := "(I)V" } : Jvm.MethodName) jdk_33_method_23_code (2 : Nat) (Option.none : Option Jvm.ClassFile.FieldType)).before args0 about1 = true := code_word (m := ⟨27, 1⟩) (meth := k27m1) (c := k27c1) (by decide +kernel) rfl rfl rfl (by decide +kernel)
set_option maxRecDepth 65536 in
theorem w_c17 : (Jvm.Cond.code ({ cls := "java/lang/Number", name := "<init>", desc := "()V" } : Jvm.MethodName) jdk_18_method_1_code (1 : Nat) (Option.none : Option Jvm.ClassFile.FieldType)).before args0 about1 = true := code_word (m := ⟨26, 0⟩) (meth := k26m0) (c := k26c0) (by decide +kernel) rfl rfl rfl (by decide +kernel)
set_option maxRecDepth 65536 in
theorem w_c18 : (Jvm.Cond.code ({ cls := "java/util/ArrayList", name := "add", desc := "(Ljava/lang/Object;)Z" } : Jvm.MethodName) jdk_38_method_25_code (2 : Nat) (Option.some Jvm.ClassFile.FieldType.boolean)).before args0 about1 = true := code_word (m := ⟨25, 6⟩) (meth := k25m6) (c := k25c6) (by decide +kernel) rfl rfl rfl (by decide +kernel)
set_option maxRecDepth 65536 in
theorem w_c19 : (Jvm.Cond.code ({ cls := "java/util/ArrayList", name := "add", desc := "(Ljava/lang/Object;[Ljava/lang/Object;I)V" } : Jvm.MethodName) jdk_38_method_24_code (4 : Nat) (Option.none : Option Jvm.ClassFile.FieldType)).before args0 about1 = true := code_word (m := ⟨25, 5⟩) (meth := k25m5) (c := k25c5) (by decide +kernel) rfl rfl rfl (by decide +kernel)
set_option maxRecDepth 65536 in
theorem w_c20 : (Jvm.Cond.code ({ cls := "java/util/ArrayList", name := "grow", desc := "()[Ljava/lang/Object;" } : Jvm.MethodName) jdk_38_method_7_code (1 : Nat) (Option.some (Jvm.ClassFile.FieldType.array (Jvm.ClassFile.FieldType.object "java/lang/Object")))).before args0 about1 = true := code_word (m := ⟨25, 2⟩) (meth := k25m2) (c := k25c2) (by decide +kernel) rfl rfl rfl (by decide +kernel)
set_option maxRecDepth 65536 in
theorem w_c21 : (Jvm.Cond.code ({ cls := "java/util/ArrayList", name := "grow", desc := "(I)[Ljava/lang/Object;" } : Jvm.MethodName) jdk_38_method_6_code (4 : Nat) (Option.some (Jvm.ClassFile.FieldType.array (Jvm.ClassFile.FieldType.object "java/lang/Object")))).before args0 about1 = true := code_word (m := ⟨25, 1⟩) (meth := k25m1) (c := k25c1) (by decide +kernel) rfl rfl rfl (by decide +kernel)
set_option maxRecDepth 65536 in
theorem w_c22 : (Jvm.Cond.code ({ cls := "java/lang/Math", name := "max", desc := "(II)I" } : Jvm.MethodName) jdk_29_method_65_code (2 : Nat) (Option.some Jvm.ClassFile.FieldType.int)).before args0 about1 = true := code_word (m := ⟨29, 1⟩) (meth := k29m1) (c := k29c1) (by decide +kernel) rfl rfl rfl (by decide +kernel)
set_option maxRecDepth 65536 in
theorem w_c23 : (Jvm.Cond.code ({ cls := "com/example/resolve_place/resolveplace/parser/ParsedQuery", name := "<init>", desc := "(Ljava/lang/String;Ljava/lang/String;Lcom/example/resolve_place/resolveplace/parser/WhatType;Lcom/example/resolve_place/resolveplace/parser/GeoRelation;Ljava/util/List;)V" } : Jvm.MethodName) prog_30_method_1_code (6 : Nat) (Option.none : Option Jvm.ClassFile.FieldType)).before args0 about1 = true := code_word (m := ⟨8, 0⟩) (meth := k8m0) (c := k8c0) (by decide +kernel) rfl rfl rfl (by decide +kernel)
set_option maxRecDepth 65536 in
theorem w_c24 : (Jvm.Cond.code ({ cls := "java/util/ArrayList", name := "isEmpty", desc := "()Z" } : Jvm.MethodName) jdk_38_method_9_code (1 : Nat) (Option.some Jvm.ClassFile.FieldType.boolean)).before args0 about1 = true := code_word (m := ⟨25, 3⟩) (meth := k25m3) (c := k25c3) (by decide +kernel) rfl rfl rfl (by decide +kernel)
set_option maxRecDepth 65536 in
theorem w_c25 : (Jvm.Cond.code ({ cls := "java/util/List", name := "copyOf", desc := "(Ljava/util/Collection;)Ljava/util/List;" } : Jvm.MethodName) jdk_40_method_48_code (1 : Nat) (Option.some (Jvm.ClassFile.FieldType.object "java/util/List"))).before args0 about1 = true := code_word (m := ⟨13, 4⟩) (meth := k13m4) (c := k13c4) (by decide +kernel) rfl rfl rfl (by decide +kernel)
set_option maxRecDepth 65536 in
theorem w_c26 : (Jvm.Cond.code ({ cls := "java/util/ImmutableCollections", name := "listCopy", desc := "(Ljava/util/Collection;)Ljava/util/List;" } : Jvm.MethodName) jdk_56_method_3_code (2 : Nat) (Option.some (Jvm.ClassFile.FieldType.object "java/util/List"))).before args0 about1 = true := code_word (m := ⟨14, 1⟩) (meth := k14m1) (c := k14c1) (by decide +kernel) rfl rfl rfl (by decide +kernel)
set_option maxRecDepth 65536 in
theorem w_c27 : (Jvm.Cond.code ({ cls := "java/util/ArrayList", name := "toArray", desc := "()[Ljava/lang/Object;" } : Jvm.MethodName) jdk_38_method_16_code (1 : Nat) (Option.some (Jvm.ClassFile.FieldType.array (Jvm.ClassFile.FieldType.object "java/lang/Object")))).before args0 about1 = true := code_word (m := ⟨25, 4⟩) (meth := k25m4) (c := k25c4) (by decide +kernel) rfl rfl rfl (by decide +kernel)
set_option maxRecDepth 65536 in
theorem w_c28 : (Jvm.Cond.code ({ cls := "java/util/Arrays", name := "copyOf", desc := "([Ljava/lang/Object;I)[Ljava/lang/Object;" } : Jvm.MethodName) jdk_65_method_119_code (2 : Nat) (Option.some (Jvm.ClassFile.FieldType.array (Jvm.ClassFile.FieldType.object "java/lang/Object")))).before args0 about1 = true := code_word (m := ⟨31, 1⟩) (meth := k31m1) (c := k31c1) (by decide +kernel) rfl rfl rfl (by decide +kernel)
set_option maxRecDepth 65536 in
theorem w_c29 : (Jvm.Cond.code ({ cls := "java/util/Arrays", name := "copyOf", desc := "([Ljava/lang/Object;ILjava/lang/Class;)[Ljava/lang/Object;" } : Jvm.MethodName) jdk_65_method_120_code (4 : Nat) (Option.some (Jvm.ClassFile.FieldType.array (Jvm.ClassFile.FieldType.object "java/lang/Object")))).before args0 about1 = true := code_word (m := ⟨31, 2⟩) (meth := k31m2) (c := k31c2) (by decide +kernel) rfl rfl rfl (by decide +kernel)
set_option maxRecDepth 65536 in
theorem w_c30 : (Jvm.Cond.code ({ cls := "java/lang/Math", name := "min", desc := "(II)I" } : Jvm.MethodName) jdk_29_method_69_code (2 : Nat) (Option.some Jvm.ClassFile.FieldType.int)).before args0 about1 = true := code_word (m := ⟨29, 2⟩) (meth := k29m2) (c := k29c2) (by decide +kernel) rfl rfl rfl (by decide +kernel)
set_option maxRecDepth 65536 in
theorem w_c31 : (Jvm.Cond.code ({ cls := "java/util/List", name := "of", desc := "([Ljava/lang/Object;)Ljava/util/List;" } : Jvm.MethodName) jdk_40_method_47_code (2 : Nat) (Option.some (Jvm.ClassFile.FieldType.object "java/util/List"))).before args0 about1 = true := code_word (m := ⟨13, 3⟩) (meth := k13m3) (c := k13c3) (by decide +kernel) rfl rfl rfl (by decide +kernel)
set_option maxRecDepth 65536 in
theorem w_c32 : (Jvm.Cond.code ({ cls := "java/util/ImmutableCollections$List12", name := "<init>", desc := "(Ljava/lang/Object;)V" } : Jvm.MethodName) jdk_44_method_1_code (2 : Nat) (Option.none : Option Jvm.ClassFile.FieldType)).before args0 about1 = true := code_word (m := ⟨30, 0⟩) (meth := k30m0) (c := k30c0) (by decide +kernel) rfl rfl rfl (by decide +kernel)
set_option maxRecDepth 65536 in
theorem w_c33 : (Jvm.Cond.code ({ cls := "java/util/ImmutableCollections$AbstractImmutableList", name := "<init>", desc := "()V" } : Jvm.MethodName) jdk_46_method_1_code (1 : Nat) (Option.none : Option Jvm.ClassFile.FieldType)).before args0 about1 = true := code_word (m := ⟨18, 0⟩) (meth := k18m0) (c := k18c0) (by decide +kernel) rfl rfl rfl (by decide +kernel)
set_option maxRecDepth 65536 in
theorem w_c34 : (Jvm.Cond.code ({ cls := "java/util/ImmutableCollections$AbstractImmutableCollection", name := "<init>", desc := "()V" } : Jvm.MethodName) jdk_47_method_1_code (1 : Nat) (Option.none : Option Jvm.ClassFile.FieldType)).before args0 about1 = true := code_word (m := ⟨16, 0⟩) (meth := k16m0) (c := k16c0) (by decide +kernel) rfl rfl rfl (by decide +kernel)
set_option maxRecDepth 65536 in
theorem w_c35 : (Jvm.Cond.code ({ cls := "java/util/Objects", name := "requireNonNull", desc := "(Ljava/lang/Object;)Ljava/lang/Object;" } : Jvm.MethodName) jdk_31_method_10_code (1 : Nat) (Option.some (Jvm.ClassFile.FieldType.object "java/lang/Object"))).before args0 about1 = true := code_word (m := ⟨9, 1⟩) (meth := k9m1) (c := k9c1) (by decide +kernel) rfl rfl rfl (by decide +kernel)
set_option maxRecDepth 65536 in
theorem w_c36 : (Jvm.Cond.code ({ cls := "java/util/ImmutableCollections$List12", name := "isEmpty", desc := "()Z" } : Jvm.MethodName) jdk_44_method_4_code (1 : Nat) (Option.some Jvm.ClassFile.FieldType.boolean)).before args0 about1 = true := code_word (m := ⟨30, 3⟩) (meth := k30m3) (c := k30c3) (by decide +kernel) rfl rfl rfl (by decide +kernel)
set_option maxRecDepth 65536 in
theorem w_c37 : (Jvm.Cond.code ({ cls := "java/util/ImmutableCollections$List12", name := "size", desc := "()I" } : Jvm.MethodName) jdk_44_method_3_code (1 : Nat) (Option.some Jvm.ClassFile.FieldType.int)).before args0 about1 = true := code_word (m := ⟨30, 2⟩) (meth := k30m2) (c := k30c2) (by decide +kernel) rfl rfl rfl (by decide +kernel)
set_option maxRecDepth 65536 in
theorem w_c38 : (Jvm.Cond.code ({ cls := "java/lang/StringUTF16", name := "compress", desc := "([CII)[B" } : Jvm.MethodName) jdk_52_method_16_code (6 : Nat) (Option.some (Jvm.ClassFile.FieldType.array Jvm.ClassFile.FieldType.byte))).before args0 about1 = true := code_word (m := ⟨33, 2⟩) (meth := k33m2) (c := k33c2) (by decide +kernel) rfl rfl rfl (by decide +kernel)
set_option maxRecDepth 65536 in
theorem w_c39 : (Jvm.Cond.code ({ cls := "java/lang/StringUTF16", name := "compress", desc := "([CI[BII)I" } : Jvm.MethodName) jdk_52_method_21_code (7 : Nat) (Option.some Jvm.ClassFile.FieldType.int)).before args0 about1 = true := code_word (m := ⟨33, 3⟩) (meth := k33m3) (c := k33c3) (by decide +kernel) rfl rfl rfl (by decide +kernel)
set_option maxRecDepth 65536 in
theorem w_c40 : (Jvm.Cond.code ({ cls := "java/lang/StringUTF16", name := "coderFromArrayLen", desc := "([BI)B" } : Jvm.MethodName) jdk_52_method_15_code (2 : Nat) (Option.some Jvm.ClassFile.FieldType.byte)).before args0 about1 = true := code_word (m := ⟨33, 1⟩) (meth := k33m1) (c := k33c1) (by decide +kernel) rfl rfl rfl (by decide +kernel)
set_option maxRecDepth 65536 in
theorem w_c41 : (Jvm.Cond.code ({ cls := "java/util/ImmutableCollections$List12", name := "<init>", desc := "(Ljava/lang/Object;Ljava/lang/Object;)V" } : Jvm.MethodName) jdk_44_method_2_code (3 : Nat) (Option.none : Option Jvm.ClassFile.FieldType)).before args0 about1 = true := code_word (m := ⟨30, 1⟩) (meth := k30m1) (c := k30c1) (by decide +kernel) rfl rfl rfl (by decide +kernel)
set_option maxRecDepth 65536 in
theorem w_c42 : (Jvm.Cond.code ({ cls := "java/util/ImmutableCollections", name := "listFromArray", desc := "([Ljava/lang/Object;)Ljava/util/List;" } : Jvm.MethodName) jdk_56_method_4_code (3 : Nat) (Option.some (Jvm.ClassFile.FieldType.object "java/util/List"))).before args0 about1 = true := code_word (m := ⟨14, 2⟩) (meth := k14m2) (c := k14c2) (by decide +kernel) rfl rfl rfl (by decide +kernel)
set_option maxRecDepth 65536 in
theorem w_c43 : (Jvm.Cond.code ({ cls := "java/util/ImmutableCollections$ListN", name := "<init>", desc := "([Ljava/lang/Object;Z)V" } : Jvm.MethodName) jdk_45_method_1_code (3 : Nat) (Option.none : Option Jvm.ClassFile.FieldType)).before args0 about1 = true := code_word (m := ⟨19, 0⟩) (meth := k19m0) (c := k19c0) (by decide +kernel) rfl rfl rfl (by decide +kernel)
set_option maxRecDepth 65536 in
theorem w_c44 : (Jvm.Cond.code ({ cls := "java/util/ImmutableCollections$ListN", name := "size", desc := "()I" } : Jvm.MethodName) jdk_45_method_3_code (1 : Nat) (Option.some Jvm.ClassFile.FieldType.int)).before args0 about1 = true := code_word (m := ⟨19, 2⟩) (meth := k19m2) (c := k19c2) (by decide +kernel) rfl rfl rfl (by decide +kernel)
set_option maxRecDepth 65536 in
theorem w_c45 : (Jvm.Cond.code ({ cls := "java/lang/String", name := "valueOf", desc := "(C)Ljava/lang/String;" } : Jvm.MethodName) jdk_42_method_139_code (1 : Nat) (Option.some (Jvm.ClassFile.FieldType.object "java/lang/String"))).before args0 about1 = true := code_word (m := ⟨7, 2⟩) (meth := k7m2) (c := k7c2) (by decide +kernel) rfl rfl rfl (by decide +kernel)
set_option maxRecDepth 65536 in
theorem w_c46 : (Jvm.Cond.code ({ cls := "java/lang/StringLatin1", name := "canEncode", desc := "(C)Z" } : Jvm.MethodName) jdk_43_method_3_code (1 : Nat) (Option.some Jvm.ClassFile.FieldType.boolean)).before args0 about1 = true := code_word (m := ⟨34, 1⟩) (meth := k34m1) (c := k34c1) (by decide +kernel) rfl rfl rfl (by decide +kernel)
set_option maxRecDepth 65536 in
theorem w_c47 : (Jvm.Cond.code ({ cls := "java/lang/StringLatin1", name := "toBytes", desc := "(C)[B" } : Jvm.MethodName) jdk_43_method_46_code (1 : Nat) (Option.some (Jvm.ClassFile.FieldType.array Jvm.ClassFile.FieldType.byte))).before args0 about1 = true := code_word (m := ⟨34, 2⟩) (meth := k34m2) (c := k34c2) (by decide +kernel) rfl rfl rfl (by decide +kernel)
set_option maxRecDepth 65536 in
theorem w_c48 : (Jvm.Cond.code ({ cls := "java/lang/String", name := "<init>", desc := "([BB)V" } : Jvm.MethodName) jdk_42_method_151_code (3 : Nat) (Option.none : Option Jvm.ClassFile.FieldType)).before args0 about1 = true := code_word (m := ⟨7, 4⟩) (meth := k7m4) (c := k7c4) (by decide +kernel) rfl rfl rfl (by decide +kernel)
def codes1 : List Jvm.Cond := [Jvm.Cond.code x code maxLocals ret, Jvm.Cond.code ({ cls := "com/example/resolve_place/resolveplace/parser/ParsedQueryIsLocalPinLaw", name := "drawn", desc := "(I)Ljava/lang/String;" } : Jvm.MethodName) method_2_code (2 : Nat) (Option.some (Jvm.ClassFile.FieldType.object "java/lang/String")), Jvm.Cond.code ({ cls := "java/lang/String", name := "<init>", desc := "([C)V" } : Jvm.MethodName) jdk_42_method_3_code (2 : Nat) (Option.none : Option Jvm.ClassFile.FieldType), Jvm.Cond.code ({ cls := "java/lang/String", name := "<init>", desc := "([CIILjava/lang/Void;)V" } : Jvm.MethodName) jdk_42_method_149_code (6 : Nat) (Option.none : Option Jvm.ClassFile.FieldType), Jvm.Cond.code ({ cls := "java/lang/Object", name := "<init>", desc := "()V" } : Jvm.MethodName) object_method_1_code (1 : Nat) (Option.none : Option Jvm.ClassFile.FieldType), Jvm.Cond.code ({ cls := "com/example/resolve_place/resolveplace/parser/ParsedQuery", name := "notLocal", desc := "(Ljava/lang/String;)Lcom/example/resolve_place/resolveplace/parser/ParsedQuery;" } : Jvm.MethodName) prog_30_method_3_code (1 : Nat) (Option.some (Jvm.ClassFile.FieldType.object "com/example/resolve_place/resolveplace/parser/ParsedQuery")), Jvm.Cond.code ({ cls := "com/example/resolve_place/resolveplace/parser/ParsedQuery", name := "<init>", desc := "(Ljava/lang/String;)V" } : Jvm.MethodName) prog_30_method_2_code (2 : Nat) (Option.none : Option Jvm.ClassFile.FieldType), Jvm.Cond.code ({ cls := "java/util/Objects", name := "requireNonNull", desc := "(Ljava/lang/Object;Ljava/lang/String;)Ljava/lang/Object;" } : Jvm.MethodName) jdk_31_method_11_code (2 : Nat) (Option.some (Jvm.ClassFile.FieldType.object "java/lang/Object")), Jvm.Cond.code ({ cls := "java/util/List", name := "of", desc := "()Ljava/util/List;" } : Jvm.MethodName) jdk_40_method_36_code (0 : Nat) (Option.some (Jvm.ClassFile.FieldType.object "java/util/List")), Jvm.Cond.code ({ cls := "com/example/resolve_place/resolveplace/parser/ParsedQuery", name := "isLocal", desc := "()Z" } : Jvm.MethodName) prog_30_method_5_code (1 : Nat) (Option.some Jvm.ClassFile.FieldType.boolean), Jvm.Cond.code ({ cls := "java/util/ImmutableCollections$ListN", name := "isEmpty", desc := "()Z" } : Jvm.MethodName) jdk_45_method_2_code (1 : Nat) (Option.some Jvm.ClassFile.FieldType.boolean), Jvm.Cond.code ({ cls := "com/example/resolve_place/resolveplace/parser/ParsedQuery", name := "places", desc := "()Ljava/util/List;" } : Jvm.MethodName) prog_30_method_9_code (1 : Nat) (Option.some (Jvm.ClassFile.FieldType.object "java/util/List")), Jvm.Cond.code ({ cls := "java/util/ArrayList", name := "<init>", desc := "()V" } : Jvm.MethodName) jdk_38_method_2_code (1 : Nat) (Option.none : Option Jvm.ClassFile.FieldType), Jvm.Cond.code ({ cls := "java/util/AbstractList", name := "<init>", desc := "()V" } : Jvm.MethodName) jdk_39_method_1_code (1 : Nat) (Option.none : Option Jvm.ClassFile.FieldType), Jvm.Cond.code ({ cls := "java/util/AbstractCollection", name := "<init>", desc := "()V" } : Jvm.MethodName) jdk_22_method_1_code (1 : Nat) (Option.none : Option Jvm.ClassFile.FieldType), Jvm.Cond.code ({ cls := "java/lang/Integer", name := "valueOf", desc := "(I)Ljava/lang/Integer;" } : Jvm.MethodName) jdk_33_method_22_code (1 : Nat) (Option.some (Jvm.ClassFile.FieldType.object "java/lang/Integer")), Jvm.Cond.code ({ cls := "java/lang/Integer", name := "<init>", desc := "(I)V" } : Jvm.MethodName) jdk_33_method_23_code (2 : Nat) (Option.none : Option Jvm.ClassFile.FieldType), Jvm.Cond.code ({ cls := "java/lang/Number", name := "<init>", desc := "()V" } : Jvm.MethodName) jdk_18_method_1_code (1 : Nat) (Option.none : Option Jvm.ClassFile.FieldType), Jvm.Cond.code ({ cls := "java/util/ArrayList", name := "add", desc := "(Ljava/lang/Object;)Z" } : Jvm.MethodName) jdk_38_method_25_code (2 : Nat) (Option.some Jvm.ClassFile.FieldType.boolean), Jvm.Cond.code ({ cls := "java/util/ArrayList", name := "add", desc := "(Ljava/lang/Object;[Ljava/lang/Object;I)V" } : Jvm.MethodName) jdk_38_method_24_code (4 : Nat) (Option.none : Option Jvm.ClassFile.FieldType), Jvm.Cond.code ({ cls := "java/util/ArrayList", name := "grow", desc := "()[Ljava/lang/Object;" } : Jvm.MethodName) jdk_38_method_7_code (1 : Nat) (Option.some (Jvm.ClassFile.FieldType.array (Jvm.ClassFile.FieldType.object "java/lang/Object"))), Jvm.Cond.code ({ cls := "java/util/ArrayList", name := "grow", desc := "(I)[Ljava/lang/Object;" } : Jvm.MethodName) jdk_38_method_6_code (4 : Nat) (Option.some (Jvm.ClassFile.FieldType.array (Jvm.ClassFile.FieldType.object "java/lang/Object"))), Jvm.Cond.code ({ cls := "java/lang/Math", name := "max", desc := "(II)I" } : Jvm.MethodName) jdk_29_method_65_code (2 : Nat) (Option.some Jvm.ClassFile.FieldType.int), Jvm.Cond.code ({ cls := "com/example/resolve_place/resolveplace/parser/ParsedQuery", name := "<init>", desc := "(Ljava/lang/String;Ljava/lang/String;Lcom/example/resolve_place/resolveplace/parser/WhatType;Lcom/example/resolve_place/resolveplace/parser/GeoRelation;Ljava/util/List;)V" } : Jvm.MethodName) prog_30_method_1_code (6 : Nat) (Option.none : Option Jvm.ClassFile.FieldType), Jvm.Cond.code ({ cls := "java/util/ArrayList", name := "isEmpty", desc := "()Z" } : Jvm.MethodName) jdk_38_method_9_code (1 : Nat) (Option.some Jvm.ClassFile.FieldType.boolean), Jvm.Cond.code ({ cls := "java/util/List", name := "copyOf", desc := "(Ljava/util/Collection;)Ljava/util/List;" } : Jvm.MethodName) jdk_40_method_48_code (1 : Nat) (Option.some (Jvm.ClassFile.FieldType.object "java/util/List")), Jvm.Cond.code ({ cls := "java/util/ImmutableCollections", name := "listCopy", desc := "(Ljava/util/Collection;)Ljava/util/List;" } : Jvm.MethodName) jdk_56_method_3_code (2 : Nat) (Option.some (Jvm.ClassFile.FieldType.object "java/util/List")), Jvm.Cond.code ({ cls := "java/util/ArrayList", name := "toArray", desc := "()[Ljava/lang/Object;" } : Jvm.MethodName) jdk_38_method_16_code (1 : Nat) (Option.some (Jvm.ClassFile.FieldType.array (Jvm.ClassFile.FieldType.object "java/lang/Object"))), Jvm.Cond.code ({ cls := "java/util/Arrays", name := "copyOf", desc := "([Ljava/lang/Object;I)[Ljava/lang/Object;" } : Jvm.MethodName) jdk_65_method_119_code (2 : Nat) (Option.some (Jvm.ClassFile.FieldType.array (Jvm.ClassFile.FieldType.object "java/lang/Object"))), Jvm.Cond.code ({ cls := "java/util/Arrays", name := "copyOf", desc := "([Ljava/lang/Object;ILjava/lang/Class;)[Ljava/lang/Object;" } : Jvm.MethodName) jdk_65_method_120_code (4 : Nat) (Option.some (Jvm.ClassFile.FieldType.array (Jvm.ClassFile.FieldType.object "java/lang/Object"))), Jvm.Cond.code ({ cls := "java/lang/Math", name := "min", desc := "(II)I" } : Jvm.MethodName) jdk_29_method_69_code (2 : Nat) (Option.some Jvm.ClassFile.FieldType.int), Jvm.Cond.code ({ cls := "java/util/List", name := "of", desc := "([Ljava/lang/Object;)Ljava/util/List;" } : Jvm.MethodName) jdk_40_method_47_code (2 : Nat) (Option.some (Jvm.ClassFile.FieldType.object "java/util/List")), Jvm.Cond.code ({ cls := "java/util/ImmutableCollections$List12", name := "<init>", desc := "(Ljava/lang/Object;)V" } : Jvm.MethodName) jdk_44_method_1_code (2 : Nat) (Option.none : Option Jvm.ClassFile.FieldType), Jvm.Cond.code ({ cls := "java/util/ImmutableCollections$AbstractImmutableList", name := "<init>", desc := "()V" } : Jvm.MethodName) jdk_46_method_1_code (1 : Nat) (Option.none : Option Jvm.ClassFile.FieldType), Jvm.Cond.code ({ cls := "java/util/ImmutableCollections$AbstractImmutableCollection", name := "<init>", desc := "()V" } : Jvm.MethodName) jdk_47_method_1_code (1 : Nat) (Option.none : Option Jvm.ClassFile.FieldType), Jvm.Cond.code ({ cls := "java/util/Objects", name := "requireNonNull", desc := "(Ljava/lang/Object;)Ljava/lang/Object;" } : Jvm.MethodName) jdk_31_method_10_code (1 : Nat) (Option.some (Jvm.ClassFile.FieldType.object "java/lang/Object")), Jvm.Cond.code ({ cls := "java/util/ImmutableCollections$List12", name := "isEmpty", desc := "()Z" } : Jvm.MethodName) jdk_44_method_4_code (1 : Nat) (Option.some Jvm.ClassFile.FieldType.boolean), Jvm.Cond.code ({ cls := "java/util/ImmutableCollections$List12", name := "size", desc := "()I" } : Jvm.MethodName) jdk_44_method_3_code (1 : Nat) (Option.some Jvm.ClassFile.FieldType.int), Jvm.Cond.code ({ cls := "java/lang/StringUTF16", name := "compress", desc := "([CII)[B" } : Jvm.MethodName) jdk_52_method_16_code (6 : Nat) (Option.some (Jvm.ClassFile.FieldType.array Jvm.ClassFile.FieldType.byte)), Jvm.Cond.code ({ cls := "java/lang/StringUTF16", name := "compress", desc := "([CI[BII)I" } : Jvm.MethodName) jdk_52_method_21_code (7 : Nat) (Option.some Jvm.ClassFile.FieldType.int), Jvm.Cond.code ({ cls := "java/lang/StringUTF16", name := "coderFromArrayLen", desc := "([BI)B" } : Jvm.MethodName) jdk_52_method_15_code (2 : Nat) (Option.some Jvm.ClassFile.FieldType.byte), Jvm.Cond.code ({ cls := "java/util/ImmutableCollections$List12", name := "<init>", desc := "(Ljava/lang/Object;Ljava/lang/Object;)V" } : Jvm.MethodName) jdk_44_method_2_code (3 : Nat) (Option.none : Option Jvm.ClassFile.FieldType), Jvm.Cond.code ({ cls := "java/util/ImmutableCollections", name := "listFromArray", desc := "([Ljava/lang/Object;)Ljava/util/List;" } : Jvm.MethodName) jdk_56_method_4_code (3 : Nat) (Option.some (Jvm.ClassFile.FieldType.object "java/util/List")), Jvm.Cond.code ({ cls := "java/util/ImmutableCollections$ListN", name := "<init>", desc := "([Ljava/lang/Object;Z)V" } : Jvm.MethodName) jdk_45_method_1_code (3 : Nat) (Option.none : Option Jvm.ClassFile.FieldType), Jvm.Cond.code ({ cls := "java/util/ImmutableCollections$ListN", name := "size", desc := "()I" } : Jvm.MethodName) jdk_45_method_3_code (1 : Nat) (Option.some Jvm.ClassFile.FieldType.int), Jvm.Cond.code ({ cls := "java/lang/String", name := "valueOf", desc := "(C)Ljava/lang/String;" } : Jvm.MethodName) jdk_42_method_139_code (1 : Nat) (Option.some (Jvm.ClassFile.FieldType.object "java/lang/String")), Jvm.Cond.code ({ cls := "java/lang/StringLatin1", name := "canEncode", desc := "(C)Z" } : Jvm.MethodName) jdk_43_method_3_code (1 : Nat) (Option.some Jvm.ClassFile.FieldType.boolean), Jvm.Cond.code ({ cls := "java/lang/StringLatin1", name := "toBytes", desc := "(C)[B" } : Jvm.MethodName) jdk_43_method_46_code (1 : Nat) (Option.some (Jvm.ClassFile.FieldType.array Jvm.ClassFile.FieldType.byte)), Jvm.Cond.code ({ cls := "java/lang/String", name := "<init>", desc := "([BB)V" } : Jvm.MethodName) jdk_42_method_151_code (3 : Nat) (Option.none : Option Jvm.ClassFile.FieldType)]
set_option maxRecDepth 65536 in
theorem codes_eq : words1.filter isCode = codes1 := rfl
theorem w_codes : ∀ c ∈ words1.filter isCode, c.before args0 about1 = true := by
  rw [codes_eq]
  intro c hc
  simp only [codes1, List.mem_cons, List.not_mem_nil, or_false] at hc
  rcases hc with rfl | rfl | rfl | rfl | rfl | rfl | rfl | rfl | rfl | rfl | rfl | rfl | rfl | rfl | rfl | rfl | rfl | rfl | rfl | rfl | rfl | rfl | rfl | rfl | rfl | rfl | rfl | rfl | rfl | rfl | rfl | rfl | rfl | rfl | rfl | rfl | rfl | rfl | rfl | rfl | rfl | rfl | rfl | rfl | rfl | rfl | rfl | rfl | rfl
  · exact w_c0
  · exact w_c1
  · exact w_c2
  · exact w_c3
  · exact w_c4
  · exact w_c5
  · exact w_c6
  · exact w_c7
  · exact w_c8
  · exact w_c9
  · exact w_c10
  · exact w_c11
  · exact w_c12
  · exact w_c13
  · exact w_c14
  · exact w_c15
  · exact w_c16
  · exact w_c17
  · exact w_c18
  · exact w_c19
  · exact w_c20
  · exact w_c21
  · exact w_c22
  · exact w_c23
  · exact w_c24
  · exact w_c25
  · exact w_c26
  · exact w_c27
  · exact w_c28
  · exact w_c29
  · exact w_c30
  · exact w_c31
  · exact w_c32
  · exact w_c33
  · exact w_c34
  · exact w_c35
  · exact w_c36
  · exact w_c37
  · exact w_c38
  · exact w_c39
  · exact w_c40
  · exact w_c41
  · exact w_c42
  · exact w_c43
  · exact w_c44
  · exact w_c45
  · exact w_c46
  · exact w_c47
  · exact w_c48
set_option maxRecDepth 65536 in
theorem w_t1 : (words1.take 24).all (fun c => isCode c || c.before args0 about1) = true := by decide +kernel
set_option maxRecDepth 65536 in
theorem w_t2 : ((words1.drop 24).take 24).all (fun c => isCode c || c.before args0 about1) = true := by decide +kernel
set_option maxRecDepth 65536 in
theorem w_t3 : (((words1.drop 24).drop 24).take 24).all (fun c => isCode c || c.before args0 about1) = true := by decide +kernel
set_option maxRecDepth 65536 in
theorem w_t4 : ((((words1.drop 24).drop 24).drop 24).take 24).all (fun c => isCode c || c.before args0 about1) = true := by decide +kernel
set_option maxRecDepth 65536 in
theorem w_t5 : (((((words1.drop 24).drop 24).drop 24).drop 24).take 24).all (fun c => isCode c || c.before args0 about1) = true := by decide +kernel
set_option maxRecDepth 65536 in
theorem w_t6 : ((((((words1.drop 24).drop 24).drop 24).drop 24).drop 24).take 24).all (fun c => isCode c || c.before args0 about1) = true := by decide +kernel
set_option maxRecDepth 65536 in
theorem w_t7 : (((((((words1.drop 24).drop 24).drop 24).drop 24).drop 24).drop 24).take 24).all (fun c => isCode c || c.before args0 about1) = true := by decide +kernel
set_option maxRecDepth 65536 in
theorem w_t8 : ((((((((words1.drop 24).drop 24).drop 24).drop 24).drop 24).drop 24).drop 24).take 24).all (fun c => isCode c || c.before args0 about1) = true := by decide +kernel
set_option maxRecDepth 65536 in
theorem w_t9 : (((((((((words1.drop 24).drop 24).drop 24).drop 24).drop 24).drop 24).drop 24).drop 24).take 24).all (fun c => isCode c || c.before args0 about1) = true := by decide +kernel
set_option maxRecDepth 65536 in
theorem w_t10 : ((((((((((words1.drop 24).drop 24).drop 24).drop 24).drop 24).drop 24).drop 24).drop 24).drop 24).take 24).all (fun c => isCode c || c.before args0 about1) = true := by decide +kernel
set_option maxRecDepth 65536 in
theorem w_t11 : (((((((((((words1.drop 24).drop 24).drop 24).drop 24).drop 24).drop 24).drop 24).drop 24).drop 24).drop 24).take 24).all (fun c => isCode c || c.before args0 about1) = true := by decide +kernel
set_option maxRecDepth 65536 in
theorem w_t12 : ((((((((((((words1.drop 24).drop 24).drop 24).drop 24).drop 24).drop 24).drop 24).drop 24).drop 24).drop 24).drop 24).take 24).all (fun c => isCode c || c.before args0 about1) = true := by decide +kernel
set_option maxRecDepth 65536 in
theorem w_t13 : (((((((((((((words1.drop 24).drop 24).drop 24).drop 24).drop 24).drop 24).drop 24).drop 24).drop 24).drop 24).drop 24).drop 24).take 24).all (fun c => isCode c || c.before args0 about1) = true := by decide +kernel
set_option maxRecDepth 65536 in
theorem w_t14 : (((((((((((((words1.drop 24).drop 24).drop 24).drop 24).drop 24).drop 24).drop 24).drop 24).drop 24).drop 24).drop 24).drop 24).drop 24).all (fun c => isCode c || c.before args0 about1) = true := by decide +kernel
theorem w_tables : (allAtoms (Jvm.Cond.code x code maxLocals ret :: tables_1)).before args0 about1 = true := by
  rw [allAtoms_all]
  show words1.all (fun c => c.before args0 about1) = true
  refine all_split ?_ w_codes
  rw [← List.take_append_drop 24 words1, List.all_append, w_t1, ← List.take_append_drop 24 (words1.drop 24), List.all_append, w_t2, ← List.take_append_drop 24 ((words1.drop 24).drop 24), List.all_append, w_t3, ← List.take_append_drop 24 (((words1.drop 24).drop 24).drop 24), List.all_append, w_t4, ← List.take_append_drop 24 ((((words1.drop 24).drop 24).drop 24).drop 24), List.all_append, w_t5, ← List.take_append_drop 24 (((((words1.drop 24).drop 24).drop 24).drop 24).drop 24), List.all_append, w_t6, ← List.take_append_drop 24 ((((((words1.drop 24).drop 24).drop 24).drop 24).drop 24).drop 24), List.all_append, w_t7, ← List.take_append_drop 24 (((((((words1.drop 24).drop 24).drop 24).drop 24).drop 24).drop 24).drop 24), List.all_append, w_t8, ← List.take_append_drop 24 ((((((((words1.drop 24).drop 24).drop 24).drop 24).drop 24).drop 24).drop 24).drop 24), List.all_append, w_t9, ← List.take_append_drop 24 (((((((((words1.drop 24).drop 24).drop 24).drop 24).drop 24).drop 24).drop 24).drop 24).drop 24), List.all_append, w_t10, ← List.take_append_drop 24 ((((((((((words1.drop 24).drop 24).drop 24).drop 24).drop 24).drop 24).drop 24).drop 24).drop 24).drop 24), List.all_append, w_t11, ← List.take_append_drop 24 (((((((((((words1.drop 24).drop 24).drop 24).drop 24).drop 24).drop 24).drop 24).drop 24).drop 24).drop 24).drop 24), List.all_append, w_t12, ← List.take_append_drop 24 ((((((((((((words1.drop 24).drop 24).drop 24).drop 24).drop 24).drop 24).drop 24).drop 24).drop 24).drop 24).drop 24).drop 24), List.all_append, w_t13, w_t14]
  rfl
set_option maxRecDepth 65536 in
theorem w_rest : rest_1_c.before args0 about1 = true := by decide +kernel
set_option maxRecDepth 65536 in
theorem w_case : (Jvm.Cond.and given_1 narrow_1).before args0 about1 = true := by decide +kernel
set_option maxRecDepth 65536 in
theorem w_consts : constsHeld consts_1 about1 := Jvm.Lit.constsHeldB_iff.mp (by decide +kernel)
theorem w_applies : (headSpec (Jvm.Cond.code x code maxLocals ret :: tables_1) room_1).applies x e0.platform about1 = true :=
  (Spec.applies_iff w_frames).mpr ⟨w_running, w_runnable, w_alone, w_named, w_hears, w_ripe, w_room, w_tables⟩
set_option maxRecDepth 65536 in
theorem atStart : AtStart classFile x code maxLocals ret World_1 tables_1 room_1 Calls_1 rest_1 Pre_1 launch0 p0 e0 about1 theMethod args0 below0 :=
  ⟨lists_1, trivial, launch0.admits_env _ _ _, launch0.least_env, fairChoices_fair.cas, fairChoices_fair.clock, w_frames, w_args, w_heap, w_applies, ⟨⟨45, k45, 7, by decide +kernel, rfl, rfl, _, rfl, rfl⟩, ⟨w_consts, trivial⟩⟩, w_rest, w_case⟩
end start1
theorem witness_1 : WitnessClaimed_1 := ⟨start1.p0, start1.e0, start1.about1, start1.theMethod, start1.args0, start1.below0, start1.atStart⟩
end Jvm.Pilot.@@N@@
