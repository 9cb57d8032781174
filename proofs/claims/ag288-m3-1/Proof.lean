import JvmDerived
import JvmDerived.Pilot.@@N@@Statement
import JvmDerived.Pilot.@@N@@Code
set_option linter.unusedVariables false
set_option linter.unusedSimpArgs false
namespace Jvm.Pilot.@@N@@
open Jvm Jvm.ClassFile Sem Op Lib Jvm.Free Jvm.Stand Jvm.LawKit Jvm.RoadKit Bundle Jvm.Pilot.@@N@@.Jvm.D
def own_Ends (tb : Tables) (e : Env) (below : List Frame) (P : Outcome → State → Prop) (S : State) : Prop := ∃ t o, Steps tb e below S t ∧ t.status = .running ∧ Ended t below o ∧ P o t
theorem own_to {tb : Tables} {e : Env} {below : List Frame} {P : Outcome → State → Prop} {S S' : State} (h : ∀ target, Steps tb e below S' target → Steps tb e below S target) (g : own_Ends tb e below P S') : own_Ends tb e below P S := by
  obtain ⟨t, o, h1, r⟩ := g
  exact ⟨t, o, h _ h1, r⟩
theorem own_tr {tb : Tables} {e : Env} {below : List Frame} {P : Outcome → State → Prop} {S S' : State} (h : Steps tb e below S S') (g : own_Ends tb e below P S') : own_Ends tb e below P S := by
  obtain ⟨t, o, h1, r⟩ := g
  exact ⟨t, o, h.trans h1, r⟩
theorem own_cast {tb : Tables} {e : Env} {below : List Frame} {P : Outcome → State → Prop} {T : State} {f f' : JFrame} (q : f = f') (g : own_Ends tb e below P (T.setTop f')) : own_Ends tb e below P (T.setTop f) := q ▸ g
def own_P (s : State) (Q : Option Value → Heap → List Loc → Prop) (ck sk : Nat) : Outcome → State → Prop := fun o U' => ∃ v L, o = .returned v ∧ Q v U'.heap L ∧ FrameEnd s o U' L ck sk
theorem own_leave {p : Program} {l : Launch} {e : Env} {R : Room} {s : State} {m : MethodId} {args : Array Value} {below : List Frame} {meth : Method} {c : Code} {T : State} {locs : List Loc} {cells slots : Nat} {F : JFrame} {Q : Option Value → Heap → List Loc → Prop} {ck sk : Nat}
    (X : Stand p l e R s m args below meth c T locs cells slots) {v : Option Value} (hv : meth.sig.returnType = none → v = none) (hQ : Q v T.heap locs) (hc : cells ≤ ck) (hs : slots ≤ sk)
    (hst : ∀ fs, (∀ (f : JFrame) (acts : List Action), f.method = m → f.locked = none → f.entered = [] → (doReturn e (T.setTop f) acts v).1 = T.setFrames fs) → Steps p.tables e below (T.setTop F) (T.setFrames fs)) (hlocks : meth.locks = false := by first | assumption | exact BodyLoose.notSynchronized (by assumption) | exact Body.notSynchronized (by assumption)) : own_Ends p.tables e below (own_P s Q ck sk) (T.setTop F) := by
  obtain ⟨fs, hr, hrun, hended, hW, hsame⟩ := X.leave hv hlocks
  exact ⟨_, _, hst fs hr, hrun, hended, _, _, rfl, hQ, ⟨_, rfl⟩, hW, hsame.mono hc hs⟩
def own_PW (s : State) (Q : Option Value → Heap → List Loc → Prop) (ck sk : Nat) : Outcome → State → Prop := fun o U' => ∃ v L, o = .returned v ∧ Q v U'.heap L ∧ ReturnedEndW s o U' L ck sk
theorem own_leaveW {p : Program} {l : Launch} {e : Env} {R : Room} {s : State} {vm1 : Vm} {m : MethodId} {args : Array Value} {below : List Frame} {meth : Method} {c : Code} {T : State} {locs : List Loc} {cells slots : Nat} {F : JFrame} {Q : Option Value → Heap → List Loc → Prop} {ck sk k0 : Nat}
    (X : Stand p l e R (s.setVm vm1) m args below meth c T locs cells slots) (hS : s.Since vm1 k0) (hk : k0 ≤ T.heap.size) {v : Option Value} (hv : meth.sig.returnType = none → v = none) (hQ : Q v T.heap locs) (hc : cells ≤ ck) (hs : slots ≤ sk)
    (hst : ∀ fs, (∀ (f : JFrame) (acts : List Action), f.method = m → f.locked = none → f.entered = [] → (doReturn e (T.setTop f) acts v).1 = T.setFrames fs) → Steps p.tables e below (T.setTop F) (T.setFrames fs)) (hlocks : meth.locks = false := by first | assumption | exact BodyLoose.notSynchronized (by assumption) | exact Body.notSynchronized (by assumption)) : own_Ends p.tables e below (own_PW s Q ck sk) (T.setTop F) := by
  obtain ⟨fs, hr, hrun, hended, h1, h2, h3, h4⟩ := X.leaveW hS hk hv hlocks
  exact ⟨_, _, hst fs hr, hrun, hended, _, _, rfl, hQ, h1, h2, h3, h4.mono hc hs⟩
theorem own_old_le {Z : State} {n0 : Nat} {h : Heap} (O : Old Z n0 h) : n0 ≤ h.size := O.1 ▸ O.2.1
theorem own_le {a b : Nat} (h : Nat.ble a b = true) : a ≤ b := Nat.le_of_ble_eq_true h
theorem own_lt {a b : Nat} (h : Nat.ble (a + 1) b = true) : a < b := Nat.le_of_ble_eq_true h
theorem own_fr {n0 : Nat} {L A B : List Loc} (q : L = A ++ B) (a : Fr n0 A) (b : Fr n0 B) : Fr n0 L := by rw [q]; exact Fr.app a b
theorem own_irr (x : Int32) : ¬ x < x := by rw [Int32.lt_iff_toInt_lt]; omega
theorem own_eqI {args : Array Value} {s : State} {t : Term} {k : Int32} (h : (Jvm.Cond.eq t (.int k)).value args s none s [] = some true) : t.eval args s none [] s = some (.int k) := by
  obtain ⟨x, y, hx, hy, -, hk⟩ := cmp_v (Or.inl h)
  cases (show some (Value.int k) = some y from hy)
  obtain ⟨z, rfl⟩ := hk
  have e : (Term.int k).eval args s none [] s = some (.int k) := rfl
  simp only [Cond.value, hx, e, Option.some.injEq, decide_eq_true_eq] at h
  rw [hx]
  simp_all
theorem own_intne {a b : Int32} (h : a ≠ b) : Value.int a ≠ Value.int b := fun q => h (Value.int.inj q)

abbrev oM0 : MethodName := ⟨"com/example/lachesis/lachesis/core/solver/BlockEquationsIsFinitePinLaw", "element", "(II)D"⟩
abbrev oM1 : MethodName := ⟨"com/example/lachesis/lachesis/core/solver/BlockEquations", "isFinite", "([D)Z"⟩
theorem ow0 {Z : State} {a0 : Array Value} (hw : ∀ d ∈ tables_1, d.before a0 Z = true) : (Jvm.Cond.methodLink "com/example/lachesis/lachesis/core/solver/BlockEquationsIsFinitePinLaw" (15 : Nat) ({ cls := "com/example/lachesis/lachesis/core/solver/BlockEquationsIsFinitePinLaw", name := "element", desc := "(II)D" } : Jvm.MethodName)).before a0 Z = true := hw _ (List.mem_of_getElem? (i := 0) rfl)
theorem ow1 {Z : State} {a0 : Array Value} (hw : ∀ d ∈ tables_1, d.before a0 Z = true) : (Jvm.Cond.static ({ cls := "com/example/lachesis/lachesis/core/solver/BlockEquationsIsFinitePinLaw", name := "element", desc := "(II)D" } : Jvm.MethodName)).before a0 Z = true := hw _ (List.mem_of_getElem? (i := 1) rfl)
theorem ow2 {Z : State} {a0 : Array Value} (hw : ∀ d ∈ tables_1, d.before a0 Z = true) : (Jvm.Cond.initialized "com/example/lachesis/lachesis/core/solver/BlockEquationsIsFinitePinLaw").before a0 Z = true := hw _ (List.mem_of_getElem? (i := 2) rfl)
theorem ow3 {Z : State} {a0 : Array Value} (hw : ∀ d ∈ tables_1, d.before a0 Z = true) : (Jvm.Cond.code ({ cls := "com/example/lachesis/lachesis/core/solver/BlockEquationsIsFinitePinLaw", name := "element", desc := "(II)D" } : Jvm.MethodName) method_2_code (4 : Nat) (Option.some Jvm.ClassFile.FieldType.double)).before a0 Z = true := hw _ (List.mem_of_getElem? (i := 3) rfl)
theorem ow4 {Z : State} {a0 : Array Value} (hw : ∀ d ∈ tables_1, d.before a0 Z = true) : (Jvm.Cond.arrayClass Jvm.ClassFile.FieldType.double).before a0 Z = true := hw _ (List.mem_of_getElem? (i := 4) rfl)
theorem ow5 {Z : State} {a0 : Array Value} (hw : ∀ d ∈ tables_1, d.before a0 Z = true) : (Jvm.Cond.methodLink "com/example/lachesis/lachesis/core/solver/BlockEquationsIsFinitePinLaw" (21 : Nat) ({ cls := "com/example/lachesis/lachesis/core/solver/BlockEquations", name := "isFinite", desc := "([D)Z" } : Jvm.MethodName)).before a0 Z = true := hw _ (List.mem_of_getElem? (i := 5) rfl)
theorem ow6 {Z : State} {a0 : Array Value} (hw : ∀ d ∈ tables_1, d.before a0 Z = true) : (Jvm.Cond.static ({ cls := "com/example/lachesis/lachesis/core/solver/BlockEquations", name := "isFinite", desc := "([D)Z" } : Jvm.MethodName)).before a0 Z = true := hw _ (List.mem_of_getElem? (i := 6) rfl)
theorem ow7 {Z : State} {a0 : Array Value} (hw : ∀ d ∈ tables_1, d.before a0 Z = true) : (Jvm.Cond.initialized "com/example/lachesis/lachesis/core/solver/BlockEquations").before a0 Z = true := hw _ (List.mem_of_getElem? (i := 7) rfl)
theorem ow8 {Z : State} {a0 : Array Value} (hw : ∀ d ∈ tables_1, d.before a0 Z = true) : (Jvm.Cond.code ({ cls := "com/example/lachesis/lachesis/core/solver/BlockEquations", name := "isFinite", desc := "([D)Z" } : Jvm.MethodName) prog_87_method_8_code (3 : Nat) (Option.some Jvm.ClassFile.FieldType.boolean)).before a0 Z = true := hw _ (List.mem_of_getElem? (i := 8) rfl)
theorem ow9 {Z : State} {a0 : Array Value} (hw : ∀ d ∈ tables_1, d.before a0 Z = true) : (Jvm.Cond.constantDouble "com/example/lachesis/lachesis/core/solver/BlockEquationsIsFinitePinLaw" (13 : Nat) (18442240474082181119 : UInt64)).before a0 Z = true := hw _ (List.mem_of_getElem? (i := 9) rfl)
theorem ow10 {Z : State} {a0 : Array Value} (hw : ∀ d ∈ tables_1, d.before a0 Z = true) : (Jvm.Cond.constantDouble "com/example/lachesis/lachesis/core/solver/BlockEquationsIsFinitePinLaw" (9 : Nat) (9218868437227405311 : UInt64)).before a0 Z = true := hw _ (List.mem_of_getElem? (i := 10) rfl)
theorem ow11 {Z : State} {a0 : Array Value} (hw : ∀ d ∈ tables_1, d.before a0 Z = true) : (Jvm.Cond.constantDouble "com/example/lachesis/lachesis/core/solver/BlockEquations" (100 : Nat) (9218868437227405312 : UInt64)).before a0 Z = true := hw _ (List.mem_of_getElem? (i := 11) rfl)
theorem ow12 {Z : State} {a0 : Array Value} (hw : ∀ d ∈ tables_1, d.before a0 Z = true) : (Jvm.Cond.constantDouble "com/example/lachesis/lachesis/core/solver/BlockEquationsIsFinitePinLaw" (11 : Nat) (9218868437227405312 : UInt64)).before a0 Z = true := hw _ (List.mem_of_getElem? (i := 12) rfl)
def own_el (k v : Int32) : UInt64 := if k = 0 then FP.l2d (v.toInt64) else if k = 1 then (9218868437227405311 : UInt64) else if k = 2 then (9218868437227405312 : UInt64) else (18442240474082181119 : UInt64)
open Jvm.Free.Fl in
theorem own_el_fin {k v : Int32} (h : ¬ k = 2) : Fin64 (own_el k v) := by
  unfold own_el
  split
  · exact l2d_fin _
  · split
    · unfold Fin64; decide
    · first | (unfold Fin64; decide) | (rw [if_neg h]; unfold Fin64; decide)
theorem own_el_inf {k v : Int32} (h : k = 2) : own_el k v = (9218868437227405312 : UInt64) := by subst h; simp [own_el]
open Jvm.Free.Fl in
theorem own_inf_nn : NoNaN64 (9218868437227405312 : UInt64) := by unfold NoNaN64; decide
theorem own_and3 (k : Int32) : k &&& 3 = 0 ∨ k &&& 3 = 1 ∨ k &&& 3 = 2 ∨ k &&& 3 = 3 := by
  have h := c_and k 3 (by decide)
  have e : (3 : Int32).toInt = 3 := by decide
  rw [e] at h
  simp only [← Int32.toInt_inj, show (0 : Int32).toInt = 0 by decide, show (1 : Int32).toInt = 1 by decide, show (2 : Int32).toInt = 2 by decide, show (3 : Int32).toInt = 3 by decide]
  omega
theorem d1_0 : decode method_2_code 0 = .ok (.iload_n 0, 1) := by decide +kernel
theorem d1_1 : decode method_2_code 1 = .ok (.ifCond .ne 9, 3) := by decide +kernel
theorem d1_4 : decode method_2_code 4 = .ok (.iload_n 1, 1) := by decide +kernel
theorem d1_5 : decode method_2_code 5 = .ok (.i2d, 1) := by decide +kernel
theorem d1_6 : decode method_2_code 6 = .ok (.dstore_n 2, 1) := by decide +kernel
theorem d1_7 : decode method_2_code 7 = .ok (.goto 31, 3) := by decide +kernel
theorem d1_10 : decode method_2_code 10 = .ok (.iload_n 0, 1) := by decide +kernel
theorem d1_11 : decode method_2_code 11 = .ok (.iconst 1, 1) := by decide +kernel
theorem d1_12 : decode method_2_code 12 = .ok (.if_icmp .ne 10, 3) := by decide +kernel
theorem d1_15 : decode method_2_code 15 = .ok (.ldc2_w 9, 3) := by decide +kernel
theorem d1_18 : decode method_2_code 18 = .ok (.dstore_n 2, 1) := by decide +kernel
theorem d1_19 : decode method_2_code 19 = .ok (.goto 19, 3) := by decide +kernel
theorem d1_22 : decode method_2_code 22 = .ok (.iload_n 0, 1) := by decide +kernel
theorem d1_23 : decode method_2_code 23 = .ok (.iconst 2, 1) := by decide +kernel
theorem d1_24 : decode method_2_code 24 = .ok (.if_icmp .ne 10, 3) := by decide +kernel
theorem d1_27 : decode method_2_code 27 = .ok (.ldc2_w 11, 3) := by decide +kernel
theorem d1_30 : decode method_2_code 30 = .ok (.dstore_n 2, 1) := by decide +kernel
theorem d1_31 : decode method_2_code 31 = .ok (.goto 7, 3) := by decide +kernel
theorem d1_34 : decode method_2_code 34 = .ok (.ldc2_w 13, 3) := by decide +kernel
theorem d1_37 : decode method_2_code 37 = .ok (.dstore_n 2, 1) := by decide +kernel
theorem d1_38 : decode method_2_code 38 = .ok (.dload_n 2, 1) := by decide +kernel
theorem d1_39 : decode method_2_code 39 = .ok (.dreturn, 1) := by decide +kernel
theorem pn_1 : plainName "com/example/lachesis/lachesis/core/solver/BlockEquationsIsFinitePinLaw" = true := by first | (simp [plainName, overriddenIn]; done) | decide +kernel
theorem ef_rmE (m : MethodId) (k : Int32) (w : Int32) : entryFrame m #[(.int k), (.int w)] 4 = mkF m 0 #[.val (.int k), .val (.int w), .unset, .unset] [] := by first | (simp [entryFrame, mkF, argsToLocals, Value.category]; done) | rfl | (rcases ref_cases hrf with rfl | ⟨q, rfl⟩ <;> rfl)
def Q_rmE (Z : State) (k : Int32) (w : Int32)  (h0 : Heap) (n0 : Nat) (v : Option Value) (h : Heap) (L : List Loc) : Prop := v = some (.double (own_el k w)) ∧ Fr n0 L ∧ h = h0
set_option maxRecDepth 65536 in
set_option maxHeartbeats 40000000 in
theorem rmE (l : Launch) (Z : State) (a0 : Array Value) (hw : ∀ d ∈ tables_1, d.before a0 Z = true) (ws : List Jvm.Cond) (k : Int32) (w : Int32)  (h0 : Heap) (n0 : Nat) (O0 : Old Z n0 h0) :
    MetFree l oM0 (head1 (Jvm.Cond.code oM0 method_2_code 4 (some .double) :: ws) ({ frames := 0, cells := 0, slots := 0, locals := 0 } : Room)) (fun aq_ U => aq_ = #[(.int k), (.int w)] ∧ Z.Warmed39 U.vm ∧ U.heap = h0) (fun _ _ _ _ _ => True) (fun _ U o U' => ∃ v L, o = .returned v ∧ Q_rmE Z k w h0 n0 v U'.heap L ∧ FrameEnd U o U' L ({ frames := 0, cells := 0, slots := 0, locals := 0 } : Room).cells ({ frames := 0, cells := 0, slots := 0, locals := 0 } : Room).slots) := by
  refine MetFree.of_bodySF (plainFor_of_name pn_1) hisR ?_
  intro p e s m args below meth c s₁ Bd hml0 hP hK
  obtain ⟨rfl, hZ, hh⟩ := hP
  have hx := Bd.exec
  have hby := Bd.bytes
  have hml : c.maxLocals = 4 := hml0
  have hown : s.vm.findClass "com/example/lachesis/lachesis/core/solver/BlockEquationsIsFinitePinLaw" = some m.cls := findClass_of_methodNamed Bd.named
  have hnm := (name_of_methodNamed Bd.named Bd.method).1
  have X0 : Stand p l e ({ frames := 0, cells := 0, slots := 0, locals := 0 } : Room) s m #[(.int k), (.int w)] below meth c s₁ [] 0 0 := Stand.of_body Bd
  have e0 : s₁.heap = h0 := by rw [← hh, Bd.state]; rfl
  have N0 := Fr.nil n0
  show own_Ends p.tables e below (own_P s (Q_rmE Z k w h0 n0) ({ frames := 0, cells := 0, slots := 0, locals := 0 } : Room).cells ({ frames := 0, cells := 0, slots := 0, locals := 0 } : Room).slots) _
  refine own_cast (ef_rmE m k w) ?_
  show own_Ends _ _ _ _ (s₁.setTop (mkF m 0 #[.val (.int k), .val (.int w), .unset, .unset] []))
  refine own_to (fun _ kont => XS.iloadN X0.here hx rfl (hb hby d1_0) rfl kont) ?_
  show own_Ends _ _ _ _ (s₁.setTop (mkF m 1 #[.val (.int k), .val (.int w), .unset, .unset] [(.int k)]))
  by_cases hc1_1 : k = (0 : Int32)
  · -- pc 1: k = (0 : Int32)
    refine own_to (fun _ kont => XS.ifNo X0.here hx rfl (hb hby d1_1) rfl ((if0 _ _).trans (teq hc1_1).2) kont) ?_
    show own_Ends _ _ _ _ (s₁.setTop (mkF m 4 #[.val (.int k), .val (.int w), .unset, .unset] []))
    refine own_to (fun _ kont => XS.iloadN X0.here hx rfl (hb hby d1_4) rfl kont) ?_
    show own_Ends _ _ _ _ (s₁.setTop (mkF m 5 #[.val (.int k), .val (.int w), .unset, .unset] [(.int w)]))
    refine own_to (fun _ kont => XS.i2dS X0.here hx rfl (hb hby d1_5) rfl (i2d_w _) kont) ?_
    show own_Ends _ _ _ _ (s₁.setTop (mkF m 6 #[.val (.int k), .val (.int w), .unset, .unset] [(.double (FP.l2d (w.toInt64)))]))
    refine own_to (fun _ kont => XS.dstoreN X0.here hx rfl (hb hby d1_6) rfl (l' := #[.val (.int k), .val (.int w), .val (.double (FP.l2d (w.toInt64))), .second]) rfl kont) ?_
    show own_Ends _ _ _ _ (s₁.setTop (mkF m 7 #[.val (.int k), .val (.int w), .val (.double (FP.l2d (w.toInt64))), .second] []))
    refine own_to (fun _ kont => XS.goto X0.here hx rfl (pc0 := 7) (pc' := 38) rfl (hb hby d1_7) (by decide) (by decide) kont) ?_
    show own_Ends _ _ _ _ (s₁.setTop (mkF m 38 #[.val (.int k), .val (.int w), .val (.double (FP.l2d (w.toInt64))), .second] []))
    refine own_to (fun _ kont => XS.dloadN X0.here hx rfl (hb hby d1_38) rfl kont) ?_
    show own_Ends _ _ _ _ (s₁.setTop (mkF m 39 #[.val (.int k), .val (.int w), .val (.double (FP.l2d (w.toInt64))), .second] [(.double (FP.l2d (w.toInt64)))]))
    refine own_leave X0 (v := some (.double (FP.l2d (w.toInt64)))) (fun h => by rw [Bd.returns] at h; cases h) ?_ (by decide) (by decide) (fun fs hr => retOut X0 hx Bd.returns rfl (Or.inr (Or.inr (Or.inl ⟨rfl, rfl, _, rfl⟩))) (hb hby d1_39) hr)
    show Q_rmE Z k w h0 n0 _ s₁.heap _
    rw [e0]
    exact ⟨by simp [own_el, *], N0, rfl⟩
  · -- pc 1: not k = (0 : Int32)
    refine own_to (fun _ kont => XS.ifYes X0.here hx rfl (pc0 := 1) (pc' := 10) rfl (hb hby d1_1) rfl ((if0 _ _).trans (feq hc1_1).2) (by decide) (by decide) kont) ?_
    show own_Ends _ _ _ _ (s₁.setTop (mkF m 10 #[.val (.int k), .val (.int w), .unset, .unset] []))
    refine own_to (fun _ kont => XS.iloadN X0.here hx rfl (hb hby d1_10) rfl kont) ?_
    show own_Ends _ _ _ _ (s₁.setTop (mkF m 11 #[.val (.int k), .val (.int w), .unset, .unset] [(.int k)]))
    refine own_to (fun _ kont => XS.iconst X0.here hx rfl (hb hby d1_11) kont) ?_
    show own_Ends _ _ _ _ (s₁.setTop (mkF m 12 #[.val (.int k), .val (.int w), .unset, .unset] [(.int 1), (.int k)]))
    by_cases hc12_2 : k = (1 : Int32)
    · -- pc 12: k = (1 : Int32)
      refine own_to (fun _ kont => XS.icmpNo X0.here hx rfl (hb hby d1_12) rfl (teq hc12_2).2 kont) ?_
      show own_Ends _ _ _ _ (s₁.setTop (mkF m 15 #[.val (.int k), .val (.int w), .unset, .unset] []))
      refine own_to (X0.ldc2DoubleC hx hown (mvT hZ (ow10 hw)) (g := (mkF m 15 #[.val (.int k), .val (.int w), .unset, .unset] [])) rfl (hb hby d1_15)) ?_
      show own_Ends _ _ _ _ (s₁.setTop (mkF m 18 #[.val (.int k), .val (.int w), .unset, .unset] [(.double (9218868437227405311 : UInt64))]))
      refine own_to (fun _ kont => XS.dstoreN X0.here hx rfl (hb hby d1_18) rfl (l' := #[.val (.int k), .val (.int w), .val (.double (9218868437227405311 : UInt64)), .second]) rfl kont) ?_
      show own_Ends _ _ _ _ (s₁.setTop (mkF m 19 #[.val (.int k), .val (.int w), .val (.double (9218868437227405311 : UInt64)), .second] []))
      refine own_to (fun _ kont => XS.goto X0.here hx rfl (pc0 := 19) (pc' := 38) rfl (hb hby d1_19) (by decide) (by decide) kont) ?_
      show own_Ends _ _ _ _ (s₁.setTop (mkF m 38 #[.val (.int k), .val (.int w), .val (.double (9218868437227405311 : UInt64)), .second] []))
      refine own_to (fun _ kont => XS.dloadN X0.here hx rfl (hb hby d1_38) rfl kont) ?_
      show own_Ends _ _ _ _ (s₁.setTop (mkF m 39 #[.val (.int k), .val (.int w), .val (.double (9218868437227405311 : UInt64)), .second] [(.double (9218868437227405311 : UInt64))]))
      refine own_leave X0 (v := some (.double (9218868437227405311 : UInt64))) (fun h => by rw [Bd.returns] at h; cases h) ?_ (by decide) (by decide) (fun fs hr => retOut X0 hx Bd.returns rfl (Or.inr (Or.inr (Or.inl ⟨rfl, rfl, _, rfl⟩))) (hb hby d1_39) hr)
      show Q_rmE Z k w h0 n0 _ s₁.heap _
      rw [e0]
      exact ⟨by simp [own_el, *], N0, rfl⟩
    · -- pc 12: not k = (1 : Int32)
      refine own_to (fun _ kont => XS.icmpYes X0.here hx rfl (pc0 := 12) (pc' := 22) rfl (hb hby d1_12) rfl (feq hc12_2).2 (by decide) (by decide) kont) ?_
      show own_Ends _ _ _ _ (s₁.setTop (mkF m 22 #[.val (.int k), .val (.int w), .unset, .unset] []))
      refine own_to (fun _ kont => XS.iloadN X0.here hx rfl (hb hby d1_22) rfl kont) ?_
      show own_Ends _ _ _ _ (s₁.setTop (mkF m 23 #[.val (.int k), .val (.int w), .unset, .unset] [(.int k)]))
      refine own_to (fun _ kont => XS.iconst X0.here hx rfl (hb hby d1_23) kont) ?_
      show own_Ends _ _ _ _ (s₁.setTop (mkF m 24 #[.val (.int k), .val (.int w), .unset, .unset] [(.int 2), (.int k)]))
      by_cases hc24_3 : k = (2 : Int32)
      · -- pc 24: k = (2 : Int32)
        refine own_to (fun _ kont => XS.icmpNo X0.here hx rfl (hb hby d1_24) rfl (teq hc24_3).2 kont) ?_
        show own_Ends _ _ _ _ (s₁.setTop (mkF m 27 #[.val (.int k), .val (.int w), .unset, .unset] []))
        refine own_to (X0.ldc2DoubleC hx hown (mvT hZ (ow12 hw)) (g := (mkF m 27 #[.val (.int k), .val (.int w), .unset, .unset] [])) rfl (hb hby d1_27)) ?_
        show own_Ends _ _ _ _ (s₁.setTop (mkF m 30 #[.val (.int k), .val (.int w), .unset, .unset] [(.double (9218868437227405312 : UInt64))]))
        refine own_to (fun _ kont => XS.dstoreN X0.here hx rfl (hb hby d1_30) rfl (l' := #[.val (.int k), .val (.int w), .val (.double (9218868437227405312 : UInt64)), .second]) rfl kont) ?_
        show own_Ends _ _ _ _ (s₁.setTop (mkF m 31 #[.val (.int k), .val (.int w), .val (.double (9218868437227405312 : UInt64)), .second] []))
        refine own_to (fun _ kont => XS.goto X0.here hx rfl (pc0 := 31) (pc' := 38) rfl (hb hby d1_31) (by decide) (by decide) kont) ?_
        show own_Ends _ _ _ _ (s₁.setTop (mkF m 38 #[.val (.int k), .val (.int w), .val (.double (9218868437227405312 : UInt64)), .second] []))
        refine own_to (fun _ kont => XS.dloadN X0.here hx rfl (hb hby d1_38) rfl kont) ?_
        show own_Ends _ _ _ _ (s₁.setTop (mkF m 39 #[.val (.int k), .val (.int w), .val (.double (9218868437227405312 : UInt64)), .second] [(.double (9218868437227405312 : UInt64))]))
        refine own_leave X0 (v := some (.double (9218868437227405312 : UInt64))) (fun h => by rw [Bd.returns] at h; cases h) ?_ (by decide) (by decide) (fun fs hr => retOut X0 hx Bd.returns rfl (Or.inr (Or.inr (Or.inl ⟨rfl, rfl, _, rfl⟩))) (hb hby d1_39) hr)
        show Q_rmE Z k w h0 n0 _ s₁.heap _
        rw [e0]
        exact ⟨by simp [own_el, *], N0, rfl⟩
      · -- pc 24: not k = (2 : Int32)
        refine own_to (fun _ kont => XS.icmpYes X0.here hx rfl (pc0 := 24) (pc' := 34) rfl (hb hby d1_24) rfl (feq hc24_3).2 (by decide) (by decide) kont) ?_
        show own_Ends _ _ _ _ (s₁.setTop (mkF m 34 #[.val (.int k), .val (.int w), .unset, .unset] []))
        refine own_to (X0.ldc2DoubleC hx hown (mvT hZ (ow9 hw)) (g := (mkF m 34 #[.val (.int k), .val (.int w), .unset, .unset] [])) rfl (hb hby d1_34)) ?_
        show own_Ends _ _ _ _ (s₁.setTop (mkF m 37 #[.val (.int k), .val (.int w), .unset, .unset] [(.double (18442240474082181119 : UInt64))]))
        refine own_to (fun _ kont => XS.dstoreN X0.here hx rfl (hb hby d1_37) rfl (l' := #[.val (.int k), .val (.int w), .val (.double (18442240474082181119 : UInt64)), .second]) rfl kont) ?_
        show own_Ends _ _ _ _ (s₁.setTop (mkF m 38 #[.val (.int k), .val (.int w), .val (.double (18442240474082181119 : UInt64)), .second] []))
        refine own_to (fun _ kont => XS.dloadN X0.here hx rfl (hb hby d1_38) rfl kont) ?_
        show own_Ends _ _ _ _ (s₁.setTop (mkF m 39 #[.val (.int k), .val (.int w), .val (.double (18442240474082181119 : UInt64)), .second] [(.double (18442240474082181119 : UInt64))]))
        refine own_leave X0 (v := some (.double (18442240474082181119 : UInt64))) (fun h => by rw [Bd.returns] at h; cases h) ?_ (by decide) (by decide) (fun fs hr => retOut X0 hx Bd.returns rfl (Or.inr (Or.inr (Or.inl ⟨rfl, rfl, _, rfl⟩))) (hb hby d1_39) hr)
        show Q_rmE Z k w h0 n0 _ s₁.heap _
        rw [e0]
        exact ⟨by simp [own_el, *], N0, rfl⟩
theorem d2_0 : decode prog_87_method_8_code 0 = .ok (.iconst 1, 1) := by decide +kernel
theorem d2_1 : decode prog_87_method_8_code 1 = .ok (.istore_n 1, 1) := by decide +kernel
theorem d2_2 : decode prog_87_method_8_code 2 = .ok (.iconst 0, 1) := by decide +kernel
theorem d2_3 : decode prog_87_method_8_code 3 = .ok (.istore_n 2, 1) := by decide +kernel
theorem d2_4 : decode prog_87_method_8_code 4 = .ok (.iload_n 2, 1) := by decide +kernel
theorem d2_5 : decode prog_87_method_8_code 5 = .ok (.aload_n 0, 1) := by decide +kernel
theorem d2_6 : decode prog_87_method_8_code 6 = .ok (.arraylength, 1) := by decide +kernel
theorem d2_7 : decode prog_87_method_8_code 7 = .ok (.if_icmp .ge 29, 3) := by decide +kernel
theorem d2_36 : decode prog_87_method_8_code 36 = .ok (.iload_n 1, 1) := by decide +kernel
theorem d2_37 : decode prog_87_method_8_code 37 = .ok (.ireturn, 1) := by decide +kernel
theorem pn_2 : plainName "com/example/lachesis/lachesis/core/solver/BlockEquations" = true := by first | (simp [plainName, overriddenIn]; done) | decide +kernel
theorem ef_rmF00 (m : MethodId) (a : Addr) : entryFrame m #[(.ref a)] 3 = mkF m 0 #[.val (.ref a), .unset, .unset] [] := by first | (simp [entryFrame, mkF, argsToLocals, Value.category]; done) | rfl | (rcases ref_cases hrf with rfl | ⟨q, rfl⟩ <;> rfl)
def Q_rmF00 (Z : State) (a : Addr) (ka : ClassId) (h0 : Heap) (n0 : Nat) (v : Option Value) (h : Heap) (L : List Loc) : Prop := v = some (.int (1 : Int32)) ∧ Fr n0 L ∧ h = h0
set_option maxRecDepth 65536 in
set_option maxHeartbeats 40000000 in
theorem rmF00 (l : Launch) (Z : State) (a0 : Array Value) (hw : ∀ d ∈ tables_1, d.before a0 Z = true) (ws : List Jvm.Cond) (a : Addr) (ka : ClassId) (h0 : Heap) (n0 : Nat) (O0 : Old Z n0 h0) (V_a : Arv Z h0 a ka .double (0 : Int32) [] (.double (FP.l2d 0))) :
    MetFree l oM1 (head1 (Jvm.Cond.code oM1 prog_87_method_8_code 3 (some .boolean) :: ws) ({ frames := 0, cells := 0, slots := 0, locals := 0 } : Room)) (fun aq_ U => aq_ = #[(.ref a)] ∧ Z.Warmed39 U.vm ∧ U.heap = h0) (fun _ _ _ _ _ => True) (fun _ U o U' => ∃ v L, o = .returned v ∧ Q_rmF00 Z a ka h0 n0 v U'.heap L ∧ FrameEnd U o U' L ({ frames := 0, cells := 0, slots := 0, locals := 0 } : Room).cells ({ frames := 0, cells := 0, slots := 0, locals := 0 } : Room).slots) := by
  refine MetFree.of_bodySF (plainFor_of_name pn_2) hisR ?_
  intro p e s m args below meth c s₁ Bd hml0 hP hK
  obtain ⟨rfl, hZ, hh⟩ := hP
  have hx := Bd.exec
  have hby := Bd.bytes
  have hml : c.maxLocals = 3 := hml0
  have hown : s.vm.findClass "com/example/lachesis/lachesis/core/solver/BlockEquations" = some m.cls := findClass_of_methodNamed Bd.named
  have hnm := (name_of_methodNamed Bd.named Bd.method).1
  have X0 : Stand p l e ({ frames := 0, cells := 0, slots := 0, locals := 0 } : Room) s m #[(.ref a)] below meth c s₁ [] 0 0 := Stand.of_body Bd
  have e0 : s₁.heap = h0 := by rw [← hh, Bd.state]; rfl
  have N0 := Fr.nil n0
  show own_Ends p.tables e below (own_P s (Q_rmF00 Z a ka h0 n0) ({ frames := 0, cells := 0, slots := 0, locals := 0 } : Room).cells ({ frames := 0, cells := 0, slots := 0, locals := 0 } : Room).slots) _
  refine own_cast (ef_rmF00 m a) ?_
  show own_Ends _ _ _ _ (s₁.setTop (mkF m 0 #[.val (.ref a), .unset, .unset] []))
  refine own_to (fun _ kont => XS.iconst X0.here hx rfl (hb hby d2_0) kont) ?_
  show own_Ends _ _ _ _ (s₁.setTop (mkF m 1 #[.val (.ref a), .unset, .unset] [(.int 1)]))
  refine own_to (fun _ kont => XS.istoreN X0.here hx rfl (hb hby d2_1) rfl (l' := #[.val (.ref a), .val (.int (1 : Int32)), .unset]) rfl kont) ?_
  show own_Ends _ _ _ _ (s₁.setTop (mkF m 2 #[.val (.ref a), .val (.int 1), .unset] []))
  refine own_to (fun _ kont => XS.iconst X0.here hx rfl (hb hby d2_2) kont) ?_
  show own_Ends _ _ _ _ (s₁.setTop (mkF m 3 #[.val (.ref a), .val (.int 1), .unset] [(.int 0)]))
  refine own_to (fun _ kont => XS.istoreN X0.here hx rfl (hb hby d2_3) rfl (l' := #[.val (.ref a), .val (.int (1 : Int32)), .val (.int (0 : Int32))]) rfl kont) ?_
  show own_Ends _ _ _ _ (s₁.setTop (mkF m 4 #[.val (.ref a), .val (.int 1), .val (.int 0)] []))
  refine own_to (fun _ kont => XS.iloadN X0.here hx rfl (hb hby d2_4) rfl kont) ?_
  show own_Ends _ _ _ _ (s₁.setTop (mkF m 5 #[.val (.ref a), .val (.int 1), .val (.int 0)] [(.int 0)]))
  refine own_to (fun _ kont => XS.aloadN X0.here hx rfl (hb hby d2_5) rfl rfl kont) ?_
  show own_Ends _ _ _ _ (s₁.setTop (mkF m 6 #[.val (.ref a), .val (.int 1), .val (.int 0)] [(.ref a), (.int 0)]))
  obtain ⟨cl1, Ar1, q1, S1, M1, -, -⟩ := id V_a
  refine own_to (fun _ kont => X0.arraylength hx (by rw [e0]; exact Ar1.1) (State.isArrayOf_alike hZ.alike Ar1.2.1) (g := (mkF m 6 #[.val (.ref a), .val (.int (1 : Int32)), .val (.int (0 : Int32))] [(.ref a), (.int (0 : Int32))])) rfl rfl (hb hby d2_6) _ kont) ?_
  rw [len_of S1 M1]
  show own_Ends _ _ _ _ (s₁.setTop (mkF m 7 #[.val (.ref a), .val (.int 1), .val (.int 0)] [(.int 0), (.int 0)]))
  refine own_to (fun _ kont => XS.icmpYes X0.here hx rfl (pc0 := 7) (pc' := 36) rfl (hb hby d2_7) rfl (flt (by decide)).2.1 (by decide) (by decide) kont) ?_
  show own_Ends _ _ _ _ (s₁.setTop (mkF m 36 #[.val (.ref a), .val (.int 1), .val (.int 0)] []))
  refine own_to (fun _ kont => XS.iloadN X0.here hx rfl (hb hby d2_36) rfl kont) ?_
  show own_Ends _ _ _ _ (s₁.setTop (mkF m 37 #[.val (.ref a), .val (.int 1), .val (.int 0)] [(.int 1)]))
  refine own_leave X0 (v := some (.int (1 : Int32))) (fun h => by rw [Bd.returns] at h; cases h) ?_ (by decide) (by decide) (fun fs hr => retN X0 hx (t := .boolean) Bd.returns (by simp) (hb hby d2_37) hr)
  show Q_rmF00 Z a ka h0 n0 _ s₁.heap _
  rw [e0]
  exact ⟨rfl, N0, rfl⟩
theorem d2_10 : decode prog_87_method_8_code 10 = .ok (.iload_n 1, 1) := by decide +kernel
theorem d2_11 : decode prog_87_method_8_code 11 = .ok (.ifCond .eq 25, 3) := by decide +kernel
theorem d2_14 : decode prog_87_method_8_code 14 = .ok (.aload_n 0, 1) := by decide +kernel
theorem d2_15 : decode prog_87_method_8_code 15 = .ok (.iload_n 2, 1) := by decide +kernel
theorem d2_16 : decode prog_87_method_8_code 16 = .ok (.daload, 1) := by decide +kernel
theorem d2_17 : decode prog_87_method_8_code 17 = .ok (.ldc2_w 100, 3) := by decide +kernel
theorem d2_20 : decode prog_87_method_8_code 20 = .ok (.dcmp .g, 1) := by decide +kernel
theorem d2_21 : decode prog_87_method_8_code 21 = .ok (.ifCond .ge 7, 3) := by decide +kernel
theorem d2_28 : decode prog_87_method_8_code 28 = .ok (.iconst 0, 1) := by decide +kernel
theorem d2_29 : decode prog_87_method_8_code 29 = .ok (.istore_n 1, 1) := by decide +kernel
theorem d2_30 : decode prog_87_method_8_code 30 = .ok (.iinc 2 1, 3) := by decide +kernel
theorem d2_33 : decode prog_87_method_8_code 33 = .ok (.goto (-29), 3) := by decide +kernel
theorem ef_rmF10 (m : MethodId) (a : Addr) : entryFrame m #[(.ref a)] 3 = mkF m 0 #[.val (.ref a), .unset, .unset] [] := by first | (simp [entryFrame, mkF, argsToLocals, Value.category]; done) | rfl | (rcases ref_cases hrf with rfl | ⟨q, rfl⟩ <;> rfl)
def Q_rmF10 (Z : State) (a : Addr) (ka : ClassId) (x0 : UInt64) (h0 : Heap) (n0 : Nat) (v : Option Value) (h : Heap) (L : List Loc) : Prop := v = some (.int (0 : Int32)) ∧ Fr n0 L ∧ h = h0
set_option maxRecDepth 65536 in
set_option maxHeartbeats 40000000 in
theorem rmF10 (l : Launch) (Z : State) (a0 : Array Value) (hw : ∀ d ∈ tables_1, d.before a0 Z = true) (ws : List Jvm.Cond) (a : Addr) (ka : ClassId) (x0 : UInt64) (h0 : Heap) (n0 : Nat) (O0 : Old Z n0 h0) (V_a : Arv Z h0 a ka .double (1 : Int32) [(.double x0)] (.double (FP.l2d 0))) (hx0 : x0 = (9218868437227405312 : UInt64)) :
    MetFree l oM1 (head1 (Jvm.Cond.code oM1 prog_87_method_8_code 3 (some .boolean) :: ws) ({ frames := 0, cells := 0, slots := 0, locals := 0 } : Room)) (fun aq_ U => aq_ = #[(.ref a)] ∧ Z.Warmed39 U.vm ∧ U.heap = h0) (fun _ _ _ _ _ => True) (fun _ U o U' => ∃ v L, o = .returned v ∧ Q_rmF10 Z a ka x0 h0 n0 v U'.heap L ∧ FrameEnd U o U' L ({ frames := 0, cells := 0, slots := 0, locals := 0 } : Room).cells ({ frames := 0, cells := 0, slots := 0, locals := 0 } : Room).slots) := by
  refine MetFree.of_bodySF (plainFor_of_name pn_2) hisR ?_
  intro p e s m args below meth c s₁ Bd hml0 hP hK
  obtain ⟨rfl, hZ, hh⟩ := hP
  have hx := Bd.exec
  have hby := Bd.bytes
  have hml : c.maxLocals = 3 := hml0
  have hown : s.vm.findClass "com/example/lachesis/lachesis/core/solver/BlockEquations" = some m.cls := findClass_of_methodNamed Bd.named
  have hnm := (name_of_methodNamed Bd.named Bd.method).1
  have X0 : Stand p l e ({ frames := 0, cells := 0, slots := 0, locals := 0 } : Room) s m #[(.ref a)] below meth c s₁ [] 0 0 := Stand.of_body Bd
  have e0 : s₁.heap = h0 := by rw [← hh, Bd.state]; rfl
  have N0 := Fr.nil n0
  show own_Ends p.tables e below (own_P s (Q_rmF10 Z a ka x0 h0 n0) ({ frames := 0, cells := 0, slots := 0, locals := 0 } : Room).cells ({ frames := 0, cells := 0, slots := 0, locals := 0 } : Room).slots) _
  refine own_cast (ef_rmF10 m a) ?_
  show own_Ends _ _ _ _ (s₁.setTop (mkF m 0 #[.val (.ref a), .unset, .unset] []))
  refine own_to (fun _ kont => XS.iconst X0.here hx rfl (hb hby d2_0) kont) ?_
  show own_Ends _ _ _ _ (s₁.setTop (mkF m 1 #[.val (.ref a), .unset, .unset] [(.int 1)]))
  refine own_to (fun _ kont => XS.istoreN X0.here hx rfl (hb hby d2_1) rfl (l' := #[.val (.ref a), .val (.int (1 : Int32)), .unset]) rfl kont) ?_
  show own_Ends _ _ _ _ (s₁.setTop (mkF m 2 #[.val (.ref a), .val (.int 1), .unset] []))
  refine own_to (fun _ kont => XS.iconst X0.here hx rfl (hb hby d2_2) kont) ?_
  show own_Ends _ _ _ _ (s₁.setTop (mkF m 3 #[.val (.ref a), .val (.int 1), .unset] [(.int 0)]))
  refine own_to (fun _ kont => XS.istoreN X0.here hx rfl (hb hby d2_3) rfl (l' := #[.val (.ref a), .val (.int (1 : Int32)), .val (.int (0 : Int32))]) rfl kont) ?_
  show own_Ends _ _ _ _ (s₁.setTop (mkF m 4 #[.val (.ref a), .val (.int 1), .val (.int 0)] []))
  refine own_to (fun _ kont => XS.iloadN X0.here hx rfl (hb hby d2_4) rfl kont) ?_
  show own_Ends _ _ _ _ (s₁.setTop (mkF m 5 #[.val (.ref a), .val (.int 1), .val (.int 0)] [(.int 0)]))
  refine own_to (fun _ kont => XS.aloadN X0.here hx rfl (hb hby d2_5) rfl rfl kont) ?_
  show own_Ends _ _ _ _ (s₁.setTop (mkF m 6 #[.val (.ref a), .val (.int 1), .val (.int 0)] [(.ref a), (.int 0)]))
  obtain ⟨cl1, Ar1, q1, S1, M1, -, -⟩ := id V_a
  refine own_to (fun _ kont => X0.arraylength hx (by rw [e0]; exact Ar1.1) (State.isArrayOf_alike hZ.alike Ar1.2.1) (g := (mkF m 6 #[.val (.ref a), .val (.int (1 : Int32)), .val (.int (0 : Int32))] [(.ref a), (.int (0 : Int32))])) rfl rfl (hb hby d2_6) _ kont) ?_
  rw [len_of S1 M1]
  show own_Ends _ _ _ _ (s₁.setTop (mkF m 7 #[.val (.ref a), .val (.int 1), .val (.int 0)] [(.int 1), (.int 0)]))
  refine own_to (fun _ kont => XS.icmpNo X0.here hx rfl (hb hby d2_7) rfl (tlt (by decide)).2.1 kont) ?_
  show own_Ends _ _ _ _ (s₁.setTop (mkF m 10 #[.val (.ref a), .val (.int 1), .val (.int 0)] []))
  refine own_to (fun _ kont => XS.iloadN X0.here hx rfl (hb hby d2_10) rfl kont) ?_
  show own_Ends _ _ _ _ (s₁.setTop (mkF m 11 #[.val (.ref a), .val (.int 1), .val (.int 0)] [(.int 1)]))
  refine own_to (fun _ kont => XS.ifNo X0.here hx rfl (hb hby d2_11) rfl ((if0 _ _).trans (feq (by decide)).1) kont) ?_
  show own_Ends _ _ _ _ (s₁.setTop (mkF m 14 #[.val (.ref a), .val (.int 1), .val (.int 0)] []))
  refine own_to (fun _ kont => XS.aloadN X0.here hx rfl (hb hby d2_14) rfl rfl kont) ?_
  show own_Ends _ _ _ _ (s₁.setTop (mkF m 15 #[.val (.ref a), .val (.int 1), .val (.int 0)] [(.ref a)]))
  refine own_to (fun _ kont => XS.iloadN X0.here hx rfl (hb hby d2_15) rfl kont) ?_
  show own_Ends _ _ _ _ (s₁.setTop (mkF m 16 #[.val (.ref a), .val (.int 1), .val (.int 0)] [(.int 0), (.ref a)]))
  obtain ⟨cl2, Ar2, q2, S2, M2, H2, G2⟩ := id V_a
  have hin2 : ¬ ((0 : Int32) < 0 ∨ cl2.slots.size ≤ ((0 : Int32)).toNatClampNeg) := inb_of S2 ⟨by decide, by decide⟩
  have hat2 : cl2.slots[((0 : Int32)).toNatClampNeg]? = some (.double x0) := Has.at H2 hin2 rfl
  refine own_to (fun _ kont => X0.daload hx (j := (0 : Int32)) (v := (.double x0)) (by rw [e0]; exact Ar2.1) (State.isArrayOf_alike hZ.alike Ar2.2.1) Ar2.2.2 hin2 hat2 (g := (mkF m 16 #[.val (.ref a), .val (.int (1 : Int32)), .val (.int (0 : Int32))] [(.int (0 : Int32)), (.ref a)])) rfl rfl (hb hby d2_16) _ kont) ?_
  show own_Ends _ _ _ _ (s₁.setTop (mkF m 17 #[.val (.ref a), .val (.int 1), .val (.int 0)] [(.double x0)]))
  refine own_to (X0.ldc2DoubleC hx hown (mvT hZ (ow11 hw)) (g := (mkF m 17 #[.val (.ref a), .val (.int (1 : Int32)), .val (.int (0 : Int32))] [(.double x0)])) rfl (hb hby d2_17)) ?_
  show own_Ends _ _ _ _ (s₁.setTop (mkF m 20 #[.val (.ref a), .val (.int 1), .val (.int 0)] [(.double (9218868437227405312 : UInt64)), (.double x0)]))
  refine own_to (fun _ kont => XS.dcmpS X0.here hx rfl (v := (0 : Int32)) (hb hby d2_20) rfl (by rw [hx0]; exact dcmpV_self own_inf_nn .g) kont) ?_
  show own_Ends _ _ _ _ (s₁.setTop (mkF m 21 #[.val (.ref a), .val (.int 1), .val (.int 0)] [(.int 0)]))
  refine own_to (fun _ kont => XS.ifYes X0.here hx rfl (pc0 := 21) (pc' := 28) rfl (hb hby d2_21) rfl ((if0 _ _).trans (flt (by decide)).2.1) (by decide) (by decide) kont) ?_
  show own_Ends _ _ _ _ (s₁.setTop (mkF m 28 #[.val (.ref a), .val (.int 1), .val (.int 0)] []))
  refine own_to (fun _ kont => XS.iconst X0.here hx rfl (hb hby d2_28) kont) ?_
  show own_Ends _ _ _ _ (s₁.setTop (mkF m 29 #[.val (.ref a), .val (.int 1), .val (.int 0)] [(.int 0)]))
  refine own_to (fun _ kont => XS.istoreN X0.here hx rfl (hb hby d2_29) rfl (l' := #[.val (.ref a), .val (.int (0 : Int32)), .val (.int (0 : Int32))]) rfl kont) ?_
  show own_Ends _ _ _ _ (s₁.setTop (mkF m 30 #[.val (.ref a), .val (.int 0), .val (.int 0)] []))
  refine own_to (fun _ kont => XS.iinc X0.here hx rfl (hb hby d2_30) rfl (l' := #[.val (.ref a), .val (.int (0 : Int32)), .val (.int (1 : Int32))]) rfl kont) ?_
  show own_Ends _ _ _ _ (s₁.setTop (mkF m 33 #[.val (.ref a), .val (.int 0), .val (.int 1)] []))
  refine own_to (fun _ kont => XS.goto X0.here hx rfl (pc0 := 33) (pc' := 4) rfl (hb hby d2_33) (by decide) (by decide) kont) ?_
  show own_Ends _ _ _ _ (s₁.setTop (mkF m 4 #[.val (.ref a), .val (.int 0), .val (.int 1)] []))
  refine own_to (fun _ kont => XS.iloadN X0.here hx rfl (hb hby d2_4) rfl kont) ?_
  show own_Ends _ _ _ _ (s₁.setTop (mkF m 5 #[.val (.ref a), .val (.int 0), .val (.int 1)] [(.int 1)]))
  refine own_to (fun _ kont => XS.aloadN X0.here hx rfl (hb hby d2_5) rfl rfl kont) ?_
  show own_Ends _ _ _ _ (s₁.setTop (mkF m 6 #[.val (.ref a), .val (.int 0), .val (.int 1)] [(.ref a), (.int 1)]))
  obtain ⟨cl3, Ar3, q3, S3, M3, -, -⟩ := id V_a
  refine own_to (fun _ kont => X0.arraylength hx (by rw [e0]; exact Ar3.1) (State.isArrayOf_alike hZ.alike Ar3.2.1) (g := (mkF m 6 #[.val (.ref a), .val (.int (0 : Int32)), .val (.int (1 : Int32))] [(.ref a), (.int (1 : Int32))])) rfl rfl (hb hby d2_6) _ kont) ?_
  rw [len_of S3 M3]
  show own_Ends _ _ _ _ (s₁.setTop (mkF m 7 #[.val (.ref a), .val (.int 0), .val (.int 1)] [(.int 1), (.int 1)]))
  refine own_to (fun _ kont => XS.icmpYes X0.here hx rfl (pc0 := 7) (pc' := 36) rfl (hb hby d2_7) rfl (flt (by decide)).2.1 (by decide) (by decide) kont) ?_
  show own_Ends _ _ _ _ (s₁.setTop (mkF m 36 #[.val (.ref a), .val (.int 0), .val (.int 1)] []))
  refine own_to (fun _ kont => XS.iloadN X0.here hx rfl (hb hby d2_36) rfl kont) ?_
  show own_Ends _ _ _ _ (s₁.setTop (mkF m 37 #[.val (.ref a), .val (.int 0), .val (.int 1)] [(.int 0)]))
  refine own_leave X0 (v := some (.int (0 : Int32))) (fun h => by rw [Bd.returns] at h; cases h) ?_ (by decide) (by decide) (fun fs hr => retN X0 hx (t := .boolean) Bd.returns (by simp) (hb hby d2_37) hr)
  show Q_rmF10 Z a ka x0 h0 n0 _ s₁.heap _
  rw [e0]
  exact ⟨rfl, N0, rfl⟩
theorem d2_24 : decode prog_87_method_8_code 24 = .ok (.iconst 1, 1) := by decide +kernel
theorem d2_25 : decode prog_87_method_8_code 25 = .ok (.goto 4, 3) := by decide +kernel
theorem ef_rmF11 (m : MethodId) (a : Addr) : entryFrame m #[(.ref a)] 3 = mkF m 0 #[.val (.ref a), .unset, .unset] [] := by first | (simp [entryFrame, mkF, argsToLocals, Value.category]; done) | rfl | (rcases ref_cases hrf with rfl | ⟨q, rfl⟩ <;> rfl)
def Q_rmF11 (Z : State) (a : Addr) (ka : ClassId) (x0 : UInt64) (h0 : Heap) (n0 : Nat) (v : Option Value) (h : Heap) (L : List Loc) : Prop := v = some (.int (1 : Int32)) ∧ Fr n0 L ∧ h = h0
set_option maxRecDepth 65536 in
set_option maxHeartbeats 40000000 in
theorem rmF11 (l : Launch) (Z : State) (a0 : Array Value) (hw : ∀ d ∈ tables_1, d.before a0 Z = true) (ws : List Jvm.Cond) (a : Addr) (ka : ClassId) (x0 : UInt64) (h0 : Heap) (n0 : Nat) (O0 : Old Z n0 h0) (V_a : Arv Z h0 a ka .double (1 : Int32) [(.double x0)] (.double (FP.l2d 0))) (hx0 : Jvm.Free.Fl.Fin64 x0) :
    MetFree l oM1 (head1 (Jvm.Cond.code oM1 prog_87_method_8_code 3 (some .boolean) :: ws) ({ frames := 0, cells := 0, slots := 0, locals := 0 } : Room)) (fun aq_ U => aq_ = #[(.ref a)] ∧ Z.Warmed39 U.vm ∧ U.heap = h0) (fun _ _ _ _ _ => True) (fun _ U o U' => ∃ v L, o = .returned v ∧ Q_rmF11 Z a ka x0 h0 n0 v U'.heap L ∧ FrameEnd U o U' L ({ frames := 0, cells := 0, slots := 0, locals := 0 } : Room).cells ({ frames := 0, cells := 0, slots := 0, locals := 0 } : Room).slots) := by
  refine MetFree.of_bodySF (plainFor_of_name pn_2) hisR ?_
  intro p e s m args below meth c s₁ Bd hml0 hP hK
  obtain ⟨rfl, hZ, hh⟩ := hP
  have hx := Bd.exec
  have hby := Bd.bytes
  have hml : c.maxLocals = 3 := hml0
  have hown : s.vm.findClass "com/example/lachesis/lachesis/core/solver/BlockEquations" = some m.cls := findClass_of_methodNamed Bd.named
  have hnm := (name_of_methodNamed Bd.named Bd.method).1
  have X0 : Stand p l e ({ frames := 0, cells := 0, slots := 0, locals := 0 } : Room) s m #[(.ref a)] below meth c s₁ [] 0 0 := Stand.of_body Bd
  have e0 : s₁.heap = h0 := by rw [← hh, Bd.state]; rfl
  have N0 := Fr.nil n0
  show own_Ends p.tables e below (own_P s (Q_rmF11 Z a ka x0 h0 n0) ({ frames := 0, cells := 0, slots := 0, locals := 0 } : Room).cells ({ frames := 0, cells := 0, slots := 0, locals := 0 } : Room).slots) _
  refine own_cast (ef_rmF11 m a) ?_
  show own_Ends _ _ _ _ (s₁.setTop (mkF m 0 #[.val (.ref a), .unset, .unset] []))
  refine own_to (fun _ kont => XS.iconst X0.here hx rfl (hb hby d2_0) kont) ?_
  show own_Ends _ _ _ _ (s₁.setTop (mkF m 1 #[.val (.ref a), .unset, .unset] [(.int 1)]))
  refine own_to (fun _ kont => XS.istoreN X0.here hx rfl (hb hby d2_1) rfl (l' := #[.val (.ref a), .val (.int (1 : Int32)), .unset]) rfl kont) ?_
  show own_Ends _ _ _ _ (s₁.setTop (mkF m 2 #[.val (.ref a), .val (.int 1), .unset] []))
  refine own_to (fun _ kont => XS.iconst X0.here hx rfl (hb hby d2_2) kont) ?_
  show own_Ends _ _ _ _ (s₁.setTop (mkF m 3 #[.val (.ref a), .val (.int 1), .unset] [(.int 0)]))
  refine own_to (fun _ kont => XS.istoreN X0.here hx rfl (hb hby d2_3) rfl (l' := #[.val (.ref a), .val (.int (1 : Int32)), .val (.int (0 : Int32))]) rfl kont) ?_
  show own_Ends _ _ _ _ (s₁.setTop (mkF m 4 #[.val (.ref a), .val (.int 1), .val (.int 0)] []))
  refine own_to (fun _ kont => XS.iloadN X0.here hx rfl (hb hby d2_4) rfl kont) ?_
  show own_Ends _ _ _ _ (s₁.setTop (mkF m 5 #[.val (.ref a), .val (.int 1), .val (.int 0)] [(.int 0)]))
  refine own_to (fun _ kont => XS.aloadN X0.here hx rfl (hb hby d2_5) rfl rfl kont) ?_
  show own_Ends _ _ _ _ (s₁.setTop (mkF m 6 #[.val (.ref a), .val (.int 1), .val (.int 0)] [(.ref a), (.int 0)]))
  obtain ⟨cl1, Ar1, q1, S1, M1, -, -⟩ := id V_a
  refine own_to (fun _ kont => X0.arraylength hx (by rw [e0]; exact Ar1.1) (State.isArrayOf_alike hZ.alike Ar1.2.1) (g := (mkF m 6 #[.val (.ref a), .val (.int (1 : Int32)), .val (.int (0 : Int32))] [(.ref a), (.int (0 : Int32))])) rfl rfl (hb hby d2_6) _ kont) ?_
  rw [len_of S1 M1]
  show own_Ends _ _ _ _ (s₁.setTop (mkF m 7 #[.val (.ref a), .val (.int 1), .val (.int 0)] [(.int 1), (.int 0)]))
  refine own_to (fun _ kont => XS.icmpNo X0.here hx rfl (hb hby d2_7) rfl (tlt (by decide)).2.1 kont) ?_
  show own_Ends _ _ _ _ (s₁.setTop (mkF m 10 #[.val (.ref a), .val (.int 1), .val (.int 0)] []))
  refine own_to (fun _ kont => XS.iloadN X0.here hx rfl (hb hby d2_10) rfl kont) ?_
  show own_Ends _ _ _ _ (s₁.setTop (mkF m 11 #[.val (.ref a), .val (.int 1), .val (.int 0)] [(.int 1)]))
  refine own_to (fun _ kont => XS.ifNo X0.here hx rfl (hb hby d2_11) rfl ((if0 _ _).trans (feq (by decide)).1) kont) ?_
  show own_Ends _ _ _ _ (s₁.setTop (mkF m 14 #[.val (.ref a), .val (.int 1), .val (.int 0)] []))
  refine own_to (fun _ kont => XS.aloadN X0.here hx rfl (hb hby d2_14) rfl rfl kont) ?_
  show own_Ends _ _ _ _ (s₁.setTop (mkF m 15 #[.val (.ref a), .val (.int 1), .val (.int 0)] [(.ref a)]))
  refine own_to (fun _ kont => XS.iloadN X0.here hx rfl (hb hby d2_15) rfl kont) ?_
  show own_Ends _ _ _ _ (s₁.setTop (mkF m 16 #[.val (.ref a), .val (.int 1), .val (.int 0)] [(.int 0), (.ref a)]))
  obtain ⟨cl2, Ar2, q2, S2, M2, H2, G2⟩ := id V_a
  have hin2 : ¬ ((0 : Int32) < 0 ∨ cl2.slots.size ≤ ((0 : Int32)).toNatClampNeg) := inb_of S2 ⟨by decide, by decide⟩
  have hat2 : cl2.slots[((0 : Int32)).toNatClampNeg]? = some (.double x0) := Has.at H2 hin2 rfl
  refine own_to (fun _ kont => X0.daload hx (j := (0 : Int32)) (v := (.double x0)) (by rw [e0]; exact Ar2.1) (State.isArrayOf_alike hZ.alike Ar2.2.1) Ar2.2.2 hin2 hat2 (g := (mkF m 16 #[.val (.ref a), .val (.int (1 : Int32)), .val (.int (0 : Int32))] [(.int (0 : Int32)), (.ref a)])) rfl rfl (hb hby d2_16) _ kont) ?_
  show own_Ends _ _ _ _ (s₁.setTop (mkF m 17 #[.val (.ref a), .val (.int 1), .val (.int 0)] [(.double x0)]))
  refine own_to (X0.ldc2DoubleC hx hown (mvT hZ (ow11 hw)) (g := (mkF m 17 #[.val (.ref a), .val (.int (1 : Int32)), .val (.int (0 : Int32))] [(.double x0)])) rfl (hb hby d2_17)) ?_
  show own_Ends _ _ _ _ (s₁.setTop (mkF m 20 #[.val (.ref a), .val (.int 1), .val (.int 0)] [(.double (9218868437227405312 : UInt64)), (.double x0)]))
  refine own_to (fun _ kont => XS.dcmpS X0.here hx rfl (v := (-1 : Int32)) (hb hby d2_20) rfl (dcmp_pinf hx0 .g) kont) ?_
  show own_Ends _ _ _ _ (s₁.setTop (mkF m 21 #[.val (.ref a), .val (.int 1), .val (.int 0)] [(.int (-1 : Int32))]))
  refine own_to (fun _ kont => XS.ifNo X0.here hx rfl (hb hby d2_21) rfl ((if0 _ _).trans (tlt (by decide)).2.1) kont) ?_
  show own_Ends _ _ _ _ (s₁.setTop (mkF m 24 #[.val (.ref a), .val (.int 1), .val (.int 0)] []))
  refine own_to (fun _ kont => XS.iconst X0.here hx rfl (hb hby d2_24) kont) ?_
  show own_Ends _ _ _ _ (s₁.setTop (mkF m 25 #[.val (.ref a), .val (.int 1), .val (.int 0)] [(.int 1)]))
  refine own_to (fun _ kont => XS.goto X0.here hx rfl (pc0 := 25) (pc' := 29) rfl (hb hby d2_25) (by decide) (by decide) kont) ?_
  show own_Ends _ _ _ _ (s₁.setTop (mkF m 29 #[.val (.ref a), .val (.int 1), .val (.int 0)] [(.int 1)]))
  refine own_to (fun _ kont => XS.istoreN X0.here hx rfl (hb hby d2_29) rfl (l' := #[.val (.ref a), .val (.int (1 : Int32)), .val (.int (0 : Int32))]) rfl kont) ?_
  show own_Ends _ _ _ _ (s₁.setTop (mkF m 30 #[.val (.ref a), .val (.int 1), .val (.int 0)] []))
  refine own_to (fun _ kont => XS.iinc X0.here hx rfl (hb hby d2_30) rfl (l' := #[.val (.ref a), .val (.int (1 : Int32)), .val (.int (1 : Int32))]) rfl kont) ?_
  show own_Ends _ _ _ _ (s₁.setTop (mkF m 33 #[.val (.ref a), .val (.int 1), .val (.int 1)] []))
  refine own_to (fun _ kont => XS.goto X0.here hx rfl (pc0 := 33) (pc' := 4) rfl (hb hby d2_33) (by decide) (by decide) kont) ?_
  show own_Ends _ _ _ _ (s₁.setTop (mkF m 4 #[.val (.ref a), .val (.int 1), .val (.int 1)] []))
  refine own_to (fun _ kont => XS.iloadN X0.here hx rfl (hb hby d2_4) rfl kont) ?_
  show own_Ends _ _ _ _ (s₁.setTop (mkF m 5 #[.val (.ref a), .val (.int 1), .val (.int 1)] [(.int 1)]))
  refine own_to (fun _ kont => XS.aloadN X0.here hx rfl (hb hby d2_5) rfl rfl kont) ?_
  show own_Ends _ _ _ _ (s₁.setTop (mkF m 6 #[.val (.ref a), .val (.int 1), .val (.int 1)] [(.ref a), (.int 1)]))
  obtain ⟨cl3, Ar3, q3, S3, M3, -, -⟩ := id V_a
  refine own_to (fun _ kont => X0.arraylength hx (by rw [e0]; exact Ar3.1) (State.isArrayOf_alike hZ.alike Ar3.2.1) (g := (mkF m 6 #[.val (.ref a), .val (.int (1 : Int32)), .val (.int (1 : Int32))] [(.ref a), (.int (1 : Int32))])) rfl rfl (hb hby d2_6) _ kont) ?_
  rw [len_of S3 M3]
  show own_Ends _ _ _ _ (s₁.setTop (mkF m 7 #[.val (.ref a), .val (.int 1), .val (.int 1)] [(.int 1), (.int 1)]))
  refine own_to (fun _ kont => XS.icmpYes X0.here hx rfl (pc0 := 7) (pc' := 36) rfl (hb hby d2_7) rfl (flt (by decide)).2.1 (by decide) (by decide) kont) ?_
  show own_Ends _ _ _ _ (s₁.setTop (mkF m 36 #[.val (.ref a), .val (.int 1), .val (.int 1)] []))
  refine own_to (fun _ kont => XS.iloadN X0.here hx rfl (hb hby d2_36) rfl kont) ?_
  show own_Ends _ _ _ _ (s₁.setTop (mkF m 37 #[.val (.ref a), .val (.int 1), .val (.int 1)] [(.int 1)]))
  refine own_leave X0 (v := some (.int (1 : Int32))) (fun h => by rw [Bd.returns] at h; cases h) ?_ (by decide) (by decide) (fun fs hr => retN X0 hx (t := .boolean) Bd.returns (by simp) (hb hby d2_37) hr)
  show Q_rmF11 Z a ka x0 h0 n0 _ s₁.heap _
  rw [e0]
  exact ⟨rfl, N0, rfl⟩
theorem ef_rmF20 (m : MethodId) (a : Addr) : entryFrame m #[(.ref a)] 3 = mkF m 0 #[.val (.ref a), .unset, .unset] [] := by first | (simp [entryFrame, mkF, argsToLocals, Value.category]; done) | rfl | (rcases ref_cases hrf with rfl | ⟨q, rfl⟩ <;> rfl)
def Q_rmF20 (Z : State) (a : Addr) (ka : ClassId) (x0 : UInt64) (x1 : UInt64) (h0 : Heap) (n0 : Nat) (v : Option Value) (h : Heap) (L : List Loc) : Prop := v = some (.int (0 : Int32)) ∧ Fr n0 L ∧ h = h0
set_option maxRecDepth 65536 in
set_option maxHeartbeats 40000000 in
theorem rmF20 (l : Launch) (Z : State) (a0 : Array Value) (hw : ∀ d ∈ tables_1, d.before a0 Z = true) (ws : List Jvm.Cond) (a : Addr) (ka : ClassId) (x0 : UInt64) (x1 : UInt64) (h0 : Heap) (n0 : Nat) (O0 : Old Z n0 h0) (V_a : Arv Z h0 a ka .double (2 : Int32) [(.double x0), (.double x1)] (.double (FP.l2d 0))) (hx0 : x0 = (9218868437227405312 : UInt64)) :
    MetFree l oM1 (head1 (Jvm.Cond.code oM1 prog_87_method_8_code 3 (some .boolean) :: ws) ({ frames := 0, cells := 0, slots := 0, locals := 0 } : Room)) (fun aq_ U => aq_ = #[(.ref a)] ∧ Z.Warmed39 U.vm ∧ U.heap = h0) (fun _ _ _ _ _ => True) (fun _ U o U' => ∃ v L, o = .returned v ∧ Q_rmF20 Z a ka x0 x1 h0 n0 v U'.heap L ∧ FrameEnd U o U' L ({ frames := 0, cells := 0, slots := 0, locals := 0 } : Room).cells ({ frames := 0, cells := 0, slots := 0, locals := 0 } : Room).slots) := by
  refine MetFree.of_bodySF (plainFor_of_name pn_2) hisR ?_
  intro p e s m args below meth c s₁ Bd hml0 hP hK
  obtain ⟨rfl, hZ, hh⟩ := hP
  have hx := Bd.exec
  have hby := Bd.bytes
  have hml : c.maxLocals = 3 := hml0
  have hown : s.vm.findClass "com/example/lachesis/lachesis/core/solver/BlockEquations" = some m.cls := findClass_of_methodNamed Bd.named
  have hnm := (name_of_methodNamed Bd.named Bd.method).1
  have X0 : Stand p l e ({ frames := 0, cells := 0, slots := 0, locals := 0 } : Room) s m #[(.ref a)] below meth c s₁ [] 0 0 := Stand.of_body Bd
  have e0 : s₁.heap = h0 := by rw [← hh, Bd.state]; rfl
  have N0 := Fr.nil n0
  show own_Ends p.tables e below (own_P s (Q_rmF20 Z a ka x0 x1 h0 n0) ({ frames := 0, cells := 0, slots := 0, locals := 0 } : Room).cells ({ frames := 0, cells := 0, slots := 0, locals := 0 } : Room).slots) _
  refine own_cast (ef_rmF20 m a) ?_
  show own_Ends _ _ _ _ (s₁.setTop (mkF m 0 #[.val (.ref a), .unset, .unset] []))
  refine own_to (fun _ kont => XS.iconst X0.here hx rfl (hb hby d2_0) kont) ?_
  show own_Ends _ _ _ _ (s₁.setTop (mkF m 1 #[.val (.ref a), .unset, .unset] [(.int 1)]))
  refine own_to (fun _ kont => XS.istoreN X0.here hx rfl (hb hby d2_1) rfl (l' := #[.val (.ref a), .val (.int (1 : Int32)), .unset]) rfl kont) ?_
  show own_Ends _ _ _ _ (s₁.setTop (mkF m 2 #[.val (.ref a), .val (.int 1), .unset] []))
  refine own_to (fun _ kont => XS.iconst X0.here hx rfl (hb hby d2_2) kont) ?_
  show own_Ends _ _ _ _ (s₁.setTop (mkF m 3 #[.val (.ref a), .val (.int 1), .unset] [(.int 0)]))
  refine own_to (fun _ kont => XS.istoreN X0.here hx rfl (hb hby d2_3) rfl (l' := #[.val (.ref a), .val (.int (1 : Int32)), .val (.int (0 : Int32))]) rfl kont) ?_
  show own_Ends _ _ _ _ (s₁.setTop (mkF m 4 #[.val (.ref a), .val (.int 1), .val (.int 0)] []))
  refine own_to (fun _ kont => XS.iloadN X0.here hx rfl (hb hby d2_4) rfl kont) ?_
  show own_Ends _ _ _ _ (s₁.setTop (mkF m 5 #[.val (.ref a), .val (.int 1), .val (.int 0)] [(.int 0)]))
  refine own_to (fun _ kont => XS.aloadN X0.here hx rfl (hb hby d2_5) rfl rfl kont) ?_
  show own_Ends _ _ _ _ (s₁.setTop (mkF m 6 #[.val (.ref a), .val (.int 1), .val (.int 0)] [(.ref a), (.int 0)]))
  obtain ⟨cl1, Ar1, q1, S1, M1, -, -⟩ := id V_a
  refine own_to (fun _ kont => X0.arraylength hx (by rw [e0]; exact Ar1.1) (State.isArrayOf_alike hZ.alike Ar1.2.1) (g := (mkF m 6 #[.val (.ref a), .val (.int (1 : Int32)), .val (.int (0 : Int32))] [(.ref a), (.int (0 : Int32))])) rfl rfl (hb hby d2_6) _ kont) ?_
  rw [len_of S1 M1]
  show own_Ends _ _ _ _ (s₁.setTop (mkF m 7 #[.val (.ref a), .val (.int 1), .val (.int 0)] [(.int 2), (.int 0)]))
  refine own_to (fun _ kont => XS.icmpNo X0.here hx rfl (hb hby d2_7) rfl (tlt (by decide)).2.1 kont) ?_
  show own_Ends _ _ _ _ (s₁.setTop (mkF m 10 #[.val (.ref a), .val (.int 1), .val (.int 0)] []))
  refine own_to (fun _ kont => XS.iloadN X0.here hx rfl (hb hby d2_10) rfl kont) ?_
  show own_Ends _ _ _ _ (s₁.setTop (mkF m 11 #[.val (.ref a), .val (.int 1), .val (.int 0)] [(.int 1)]))
  refine own_to (fun _ kont => XS.ifNo X0.here hx rfl (hb hby d2_11) rfl ((if0 _ _).trans (feq (by decide)).1) kont) ?_
  show own_Ends _ _ _ _ (s₁.setTop (mkF m 14 #[.val (.ref a), .val (.int 1), .val (.int 0)] []))
  refine own_to (fun _ kont => XS.aloadN X0.here hx rfl (hb hby d2_14) rfl rfl kont) ?_
  show own_Ends _ _ _ _ (s₁.setTop (mkF m 15 #[.val (.ref a), .val (.int 1), .val (.int 0)] [(.ref a)]))
  refine own_to (fun _ kont => XS.iloadN X0.here hx rfl (hb hby d2_15) rfl kont) ?_
  show own_Ends _ _ _ _ (s₁.setTop (mkF m 16 #[.val (.ref a), .val (.int 1), .val (.int 0)] [(.int 0), (.ref a)]))
  obtain ⟨cl2, Ar2, q2, S2, M2, H2, G2⟩ := id V_a
  have hin2 : ¬ ((0 : Int32) < 0 ∨ cl2.slots.size ≤ ((0 : Int32)).toNatClampNeg) := inb_of S2 ⟨by decide, by decide⟩
  have hat2 : cl2.slots[((0 : Int32)).toNatClampNeg]? = some (.double x0) := Has.at H2 hin2 rfl
  refine own_to (fun _ kont => X0.daload hx (j := (0 : Int32)) (v := (.double x0)) (by rw [e0]; exact Ar2.1) (State.isArrayOf_alike hZ.alike Ar2.2.1) Ar2.2.2 hin2 hat2 (g := (mkF m 16 #[.val (.ref a), .val (.int (1 : Int32)), .val (.int (0 : Int32))] [(.int (0 : Int32)), (.ref a)])) rfl rfl (hb hby d2_16) _ kont) ?_
  show own_Ends _ _ _ _ (s₁.setTop (mkF m 17 #[.val (.ref a), .val (.int 1), .val (.int 0)] [(.double x0)]))
  refine own_to (X0.ldc2DoubleC hx hown (mvT hZ (ow11 hw)) (g := (mkF m 17 #[.val (.ref a), .val (.int (1 : Int32)), .val (.int (0 : Int32))] [(.double x0)])) rfl (hb hby d2_17)) ?_
  show own_Ends _ _ _ _ (s₁.setTop (mkF m 20 #[.val (.ref a), .val (.int 1), .val (.int 0)] [(.double (9218868437227405312 : UInt64)), (.double x0)]))
  refine own_to (fun _ kont => XS.dcmpS X0.here hx rfl (v := (0 : Int32)) (hb hby d2_20) rfl (by rw [hx0]; exact dcmpV_self own_inf_nn .g) kont) ?_
  show own_Ends _ _ _ _ (s₁.setTop (mkF m 21 #[.val (.ref a), .val (.int 1), .val (.int 0)] [(.int 0)]))
  refine own_to (fun _ kont => XS.ifYes X0.here hx rfl (pc0 := 21) (pc' := 28) rfl (hb hby d2_21) rfl ((if0 _ _).trans (flt (by decide)).2.1) (by decide) (by decide) kont) ?_
  show own_Ends _ _ _ _ (s₁.setTop (mkF m 28 #[.val (.ref a), .val (.int 1), .val (.int 0)] []))
  refine own_to (fun _ kont => XS.iconst X0.here hx rfl (hb hby d2_28) kont) ?_
  show own_Ends _ _ _ _ (s₁.setTop (mkF m 29 #[.val (.ref a), .val (.int 1), .val (.int 0)] [(.int 0)]))
  refine own_to (fun _ kont => XS.istoreN X0.here hx rfl (hb hby d2_29) rfl (l' := #[.val (.ref a), .val (.int (0 : Int32)), .val (.int (0 : Int32))]) rfl kont) ?_
  show own_Ends _ _ _ _ (s₁.setTop (mkF m 30 #[.val (.ref a), .val (.int 0), .val (.int 0)] []))
  refine own_to (fun _ kont => XS.iinc X0.here hx rfl (hb hby d2_30) rfl (l' := #[.val (.ref a), .val (.int (0 : Int32)), .val (.int (1 : Int32))]) rfl kont) ?_
  show own_Ends _ _ _ _ (s₁.setTop (mkF m 33 #[.val (.ref a), .val (.int 0), .val (.int 1)] []))
  refine own_to (fun _ kont => XS.goto X0.here hx rfl (pc0 := 33) (pc' := 4) rfl (hb hby d2_33) (by decide) (by decide) kont) ?_
  show own_Ends _ _ _ _ (s₁.setTop (mkF m 4 #[.val (.ref a), .val (.int 0), .val (.int 1)] []))
  refine own_to (fun _ kont => XS.iloadN X0.here hx rfl (hb hby d2_4) rfl kont) ?_
  show own_Ends _ _ _ _ (s₁.setTop (mkF m 5 #[.val (.ref a), .val (.int 0), .val (.int 1)] [(.int 1)]))
  refine own_to (fun _ kont => XS.aloadN X0.here hx rfl (hb hby d2_5) rfl rfl kont) ?_
  show own_Ends _ _ _ _ (s₁.setTop (mkF m 6 #[.val (.ref a), .val (.int 0), .val (.int 1)] [(.ref a), (.int 1)]))
  obtain ⟨cl3, Ar3, q3, S3, M3, -, -⟩ := id V_a
  refine own_to (fun _ kont => X0.arraylength hx (by rw [e0]; exact Ar3.1) (State.isArrayOf_alike hZ.alike Ar3.2.1) (g := (mkF m 6 #[.val (.ref a), .val (.int (0 : Int32)), .val (.int (1 : Int32))] [(.ref a), (.int (1 : Int32))])) rfl rfl (hb hby d2_6) _ kont) ?_
  rw [len_of S3 M3]
  show own_Ends _ _ _ _ (s₁.setTop (mkF m 7 #[.val (.ref a), .val (.int 0), .val (.int 1)] [(.int 2), (.int 1)]))
  refine own_to (fun _ kont => XS.icmpNo X0.here hx rfl (hb hby d2_7) rfl (tlt (by decide)).2.1 kont) ?_
  show own_Ends _ _ _ _ (s₁.setTop (mkF m 10 #[.val (.ref a), .val (.int 0), .val (.int 1)] []))
  refine own_to (fun _ kont => XS.iloadN X0.here hx rfl (hb hby d2_10) rfl kont) ?_
  show own_Ends _ _ _ _ (s₁.setTop (mkF m 11 #[.val (.ref a), .val (.int 0), .val (.int 1)] [(.int 0)]))
  refine own_to (fun _ kont => XS.ifYes X0.here hx rfl (pc0 := 11) (pc' := 36) rfl (hb hby d2_11) rfl ((if0 _ _).trans (teq (by decide)).1) (by decide) (by decide) kont) ?_
  show own_Ends _ _ _ _ (s₁.setTop (mkF m 36 #[.val (.ref a), .val (.int 0), .val (.int 1)] []))
  refine own_to (fun _ kont => XS.iloadN X0.here hx rfl (hb hby d2_36) rfl kont) ?_
  show own_Ends _ _ _ _ (s₁.setTop (mkF m 37 #[.val (.ref a), .val (.int 0), .val (.int 1)] [(.int 0)]))
  refine own_leave X0 (v := some (.int (0 : Int32))) (fun h => by rw [Bd.returns] at h; cases h) ?_ (by decide) (by decide) (fun fs hr => retN X0 hx (t := .boolean) Bd.returns (by simp) (hb hby d2_37) hr)
  show Q_rmF20 Z a ka x0 x1 h0 n0 _ s₁.heap _
  rw [e0]
  exact ⟨rfl, N0, rfl⟩
theorem ef_rmF21 (m : MethodId) (a : Addr) : entryFrame m #[(.ref a)] 3 = mkF m 0 #[.val (.ref a), .unset, .unset] [] := by first | (simp [entryFrame, mkF, argsToLocals, Value.category]; done) | rfl | (rcases ref_cases hrf with rfl | ⟨q, rfl⟩ <;> rfl)
def Q_rmF21 (Z : State) (a : Addr) (ka : ClassId) (x0 : UInt64) (x1 : UInt64) (h0 : Heap) (n0 : Nat) (v : Option Value) (h : Heap) (L : List Loc) : Prop := v = some (.int (0 : Int32)) ∧ Fr n0 L ∧ h = h0
set_option maxRecDepth 65536 in
set_option maxHeartbeats 40000000 in
theorem rmF21 (l : Launch) (Z : State) (a0 : Array Value) (hw : ∀ d ∈ tables_1, d.before a0 Z = true) (ws : List Jvm.Cond) (a : Addr) (ka : ClassId) (x0 : UInt64) (x1 : UInt64) (h0 : Heap) (n0 : Nat) (O0 : Old Z n0 h0) (V_a : Arv Z h0 a ka .double (2 : Int32) [(.double x0), (.double x1)] (.double (FP.l2d 0))) (hx0 : Jvm.Free.Fl.Fin64 x0) (hx1 : x1 = (9218868437227405312 : UInt64)) :
    MetFree l oM1 (head1 (Jvm.Cond.code oM1 prog_87_method_8_code 3 (some .boolean) :: ws) ({ frames := 0, cells := 0, slots := 0, locals := 0 } : Room)) (fun aq_ U => aq_ = #[(.ref a)] ∧ Z.Warmed39 U.vm ∧ U.heap = h0) (fun _ _ _ _ _ => True) (fun _ U o U' => ∃ v L, o = .returned v ∧ Q_rmF21 Z a ka x0 x1 h0 n0 v U'.heap L ∧ FrameEnd U o U' L ({ frames := 0, cells := 0, slots := 0, locals := 0 } : Room).cells ({ frames := 0, cells := 0, slots := 0, locals := 0 } : Room).slots) := by
  refine MetFree.of_bodySF (plainFor_of_name pn_2) hisR ?_
  intro p e s m args below meth c s₁ Bd hml0 hP hK
  obtain ⟨rfl, hZ, hh⟩ := hP
  have hx := Bd.exec
  have hby := Bd.bytes
  have hml : c.maxLocals = 3 := hml0
  have hown : s.vm.findClass "com/example/lachesis/lachesis/core/solver/BlockEquations" = some m.cls := findClass_of_methodNamed Bd.named
  have hnm := (name_of_methodNamed Bd.named Bd.method).1
  have X0 : Stand p l e ({ frames := 0, cells := 0, slots := 0, locals := 0 } : Room) s m #[(.ref a)] below meth c s₁ [] 0 0 := Stand.of_body Bd
  have e0 : s₁.heap = h0 := by rw [← hh, Bd.state]; rfl
  have N0 := Fr.nil n0
  show own_Ends p.tables e below (own_P s (Q_rmF21 Z a ka x0 x1 h0 n0) ({ frames := 0, cells := 0, slots := 0, locals := 0 } : Room).cells ({ frames := 0, cells := 0, slots := 0, locals := 0 } : Room).slots) _
  refine own_cast (ef_rmF21 m a) ?_
  show own_Ends _ _ _ _ (s₁.setTop (mkF m 0 #[.val (.ref a), .unset, .unset] []))
  refine own_to (fun _ kont => XS.iconst X0.here hx rfl (hb hby d2_0) kont) ?_
  show own_Ends _ _ _ _ (s₁.setTop (mkF m 1 #[.val (.ref a), .unset, .unset] [(.int 1)]))
  refine own_to (fun _ kont => XS.istoreN X0.here hx rfl (hb hby d2_1) rfl (l' := #[.val (.ref a), .val (.int (1 : Int32)), .unset]) rfl kont) ?_
  show own_Ends _ _ _ _ (s₁.setTop (mkF m 2 #[.val (.ref a), .val (.int 1), .unset] []))
  refine own_to (fun _ kont => XS.iconst X0.here hx rfl (hb hby d2_2) kont) ?_
  show own_Ends _ _ _ _ (s₁.setTop (mkF m 3 #[.val (.ref a), .val (.int 1), .unset] [(.int 0)]))
  refine own_to (fun _ kont => XS.istoreN X0.here hx rfl (hb hby d2_3) rfl (l' := #[.val (.ref a), .val (.int (1 : Int32)), .val (.int (0 : Int32))]) rfl kont) ?_
  show own_Ends _ _ _ _ (s₁.setTop (mkF m 4 #[.val (.ref a), .val (.int 1), .val (.int 0)] []))
  refine own_to (fun _ kont => XS.iloadN X0.here hx rfl (hb hby d2_4) rfl kont) ?_
  show own_Ends _ _ _ _ (s₁.setTop (mkF m 5 #[.val (.ref a), .val (.int 1), .val (.int 0)] [(.int 0)]))
  refine own_to (fun _ kont => XS.aloadN X0.here hx rfl (hb hby d2_5) rfl rfl kont) ?_
  show own_Ends _ _ _ _ (s₁.setTop (mkF m 6 #[.val (.ref a), .val (.int 1), .val (.int 0)] [(.ref a), (.int 0)]))
  obtain ⟨cl1, Ar1, q1, S1, M1, -, -⟩ := id V_a
  refine own_to (fun _ kont => X0.arraylength hx (by rw [e0]; exact Ar1.1) (State.isArrayOf_alike hZ.alike Ar1.2.1) (g := (mkF m 6 #[.val (.ref a), .val (.int (1 : Int32)), .val (.int (0 : Int32))] [(.ref a), (.int (0 : Int32))])) rfl rfl (hb hby d2_6) _ kont) ?_
  rw [len_of S1 M1]
  show own_Ends _ _ _ _ (s₁.setTop (mkF m 7 #[.val (.ref a), .val (.int 1), .val (.int 0)] [(.int 2), (.int 0)]))
  refine own_to (fun _ kont => XS.icmpNo X0.here hx rfl (hb hby d2_7) rfl (tlt (by decide)).2.1 kont) ?_
  show own_Ends _ _ _ _ (s₁.setTop (mkF m 10 #[.val (.ref a), .val (.int 1), .val (.int 0)] []))
  refine own_to (fun _ kont => XS.iloadN X0.here hx rfl (hb hby d2_10) rfl kont) ?_
  show own_Ends _ _ _ _ (s₁.setTop (mkF m 11 #[.val (.ref a), .val (.int 1), .val (.int 0)] [(.int 1)]))
  refine own_to (fun _ kont => XS.ifNo X0.here hx rfl (hb hby d2_11) rfl ((if0 _ _).trans (feq (by decide)).1) kont) ?_
  show own_Ends _ _ _ _ (s₁.setTop (mkF m 14 #[.val (.ref a), .val (.int 1), .val (.int 0)] []))
  refine own_to (fun _ kont => XS.aloadN X0.here hx rfl (hb hby d2_14) rfl rfl kont) ?_
  show own_Ends _ _ _ _ (s₁.setTop (mkF m 15 #[.val (.ref a), .val (.int 1), .val (.int 0)] [(.ref a)]))
  refine own_to (fun _ kont => XS.iloadN X0.here hx rfl (hb hby d2_15) rfl kont) ?_
  show own_Ends _ _ _ _ (s₁.setTop (mkF m 16 #[.val (.ref a), .val (.int 1), .val (.int 0)] [(.int 0), (.ref a)]))
  obtain ⟨cl2, Ar2, q2, S2, M2, H2, G2⟩ := id V_a
  have hin2 : ¬ ((0 : Int32) < 0 ∨ cl2.slots.size ≤ ((0 : Int32)).toNatClampNeg) := inb_of S2 ⟨by decide, by decide⟩
  have hat2 : cl2.slots[((0 : Int32)).toNatClampNeg]? = some (.double x0) := Has.at H2 hin2 rfl
  refine own_to (fun _ kont => X0.daload hx (j := (0 : Int32)) (v := (.double x0)) (by rw [e0]; exact Ar2.1) (State.isArrayOf_alike hZ.alike Ar2.2.1) Ar2.2.2 hin2 hat2 (g := (mkF m 16 #[.val (.ref a), .val (.int (1 : Int32)), .val (.int (0 : Int32))] [(.int (0 : Int32)), (.ref a)])) rfl rfl (hb hby d2_16) _ kont) ?_
  show own_Ends _ _ _ _ (s₁.setTop (mkF m 17 #[.val (.ref a), .val (.int 1), .val (.int 0)] [(.double x0)]))
  refine own_to (X0.ldc2DoubleC hx hown (mvT hZ (ow11 hw)) (g := (mkF m 17 #[.val (.ref a), .val (.int (1 : Int32)), .val (.int (0 : Int32))] [(.double x0)])) rfl (hb hby d2_17)) ?_
  show own_Ends _ _ _ _ (s₁.setTop (mkF m 20 #[.val (.ref a), .val (.int 1), .val (.int 0)] [(.double (9218868437227405312 : UInt64)), (.double x0)]))
  refine own_to (fun _ kont => XS.dcmpS X0.here hx rfl (v := (-1 : Int32)) (hb hby d2_20) rfl (dcmp_pinf hx0 .g) kont) ?_
  show own_Ends _ _ _ _ (s₁.setTop (mkF m 21 #[.val (.ref a), .val (.int 1), .val (.int 0)] [(.int (-1 : Int32))]))
  refine own_to (fun _ kont => XS.ifNo X0.here hx rfl (hb hby d2_21) rfl ((if0 _ _).trans (tlt (by decide)).2.1) kont) ?_
  show own_Ends _ _ _ _ (s₁.setTop (mkF m 24 #[.val (.ref a), .val (.int 1), .val (.int 0)] []))
  refine own_to (fun _ kont => XS.iconst X0.here hx rfl (hb hby d2_24) kont) ?_
  show own_Ends _ _ _ _ (s₁.setTop (mkF m 25 #[.val (.ref a), .val (.int 1), .val (.int 0)] [(.int 1)]))
  refine own_to (fun _ kont => XS.goto X0.here hx rfl (pc0 := 25) (pc' := 29) rfl (hb hby d2_25) (by decide) (by decide) kont) ?_
  show own_Ends _ _ _ _ (s₁.setTop (mkF m 29 #[.val (.ref a), .val (.int 1), .val (.int 0)] [(.int 1)]))
  refine own_to (fun _ kont => XS.istoreN X0.here hx rfl (hb hby d2_29) rfl (l' := #[.val (.ref a), .val (.int (1 : Int32)), .val (.int (0 : Int32))]) rfl kont) ?_
  show own_Ends _ _ _ _ (s₁.setTop (mkF m 30 #[.val (.ref a), .val (.int 1), .val (.int 0)] []))
  refine own_to (fun _ kont => XS.iinc X0.here hx rfl (hb hby d2_30) rfl (l' := #[.val (.ref a), .val (.int (1 : Int32)), .val (.int (1 : Int32))]) rfl kont) ?_
  show own_Ends _ _ _ _ (s₁.setTop (mkF m 33 #[.val (.ref a), .val (.int 1), .val (.int 1)] []))
  refine own_to (fun _ kont => XS.goto X0.here hx rfl (pc0 := 33) (pc' := 4) rfl (hb hby d2_33) (by decide) (by decide) kont) ?_
  show own_Ends _ _ _ _ (s₁.setTop (mkF m 4 #[.val (.ref a), .val (.int 1), .val (.int 1)] []))
  refine own_to (fun _ kont => XS.iloadN X0.here hx rfl (hb hby d2_4) rfl kont) ?_
  show own_Ends _ _ _ _ (s₁.setTop (mkF m 5 #[.val (.ref a), .val (.int 1), .val (.int 1)] [(.int 1)]))
  refine own_to (fun _ kont => XS.aloadN X0.here hx rfl (hb hby d2_5) rfl rfl kont) ?_
  show own_Ends _ _ _ _ (s₁.setTop (mkF m 6 #[.val (.ref a), .val (.int 1), .val (.int 1)] [(.ref a), (.int 1)]))
  obtain ⟨cl3, Ar3, q3, S3, M3, -, -⟩ := id V_a
  refine own_to (fun _ kont => X0.arraylength hx (by rw [e0]; exact Ar3.1) (State.isArrayOf_alike hZ.alike Ar3.2.1) (g := (mkF m 6 #[.val (.ref a), .val (.int (1 : Int32)), .val (.int (1 : Int32))] [(.ref a), (.int (1 : Int32))])) rfl rfl (hb hby d2_6) _ kont) ?_
  rw [len_of S3 M3]
  show own_Ends _ _ _ _ (s₁.setTop (mkF m 7 #[.val (.ref a), .val (.int 1), .val (.int 1)] [(.int 2), (.int 1)]))
  refine own_to (fun _ kont => XS.icmpNo X0.here hx rfl (hb hby d2_7) rfl (tlt (by decide)).2.1 kont) ?_
  show own_Ends _ _ _ _ (s₁.setTop (mkF m 10 #[.val (.ref a), .val (.int 1), .val (.int 1)] []))
  refine own_to (fun _ kont => XS.iloadN X0.here hx rfl (hb hby d2_10) rfl kont) ?_
  show own_Ends _ _ _ _ (s₁.setTop (mkF m 11 #[.val (.ref a), .val (.int 1), .val (.int 1)] [(.int 1)]))
  refine own_to (fun _ kont => XS.ifNo X0.here hx rfl (hb hby d2_11) rfl ((if0 _ _).trans (feq (by decide)).1) kont) ?_
  show own_Ends _ _ _ _ (s₁.setTop (mkF m 14 #[.val (.ref a), .val (.int 1), .val (.int 1)] []))
  refine own_to (fun _ kont => XS.aloadN X0.here hx rfl (hb hby d2_14) rfl rfl kont) ?_
  show own_Ends _ _ _ _ (s₁.setTop (mkF m 15 #[.val (.ref a), .val (.int 1), .val (.int 1)] [(.ref a)]))
  refine own_to (fun _ kont => XS.iloadN X0.here hx rfl (hb hby d2_15) rfl kont) ?_
  show own_Ends _ _ _ _ (s₁.setTop (mkF m 16 #[.val (.ref a), .val (.int 1), .val (.int 1)] [(.int 1), (.ref a)]))
  obtain ⟨cl4, Ar4, q4, S4, M4, H4, G4⟩ := id V_a
  have hin4 : ¬ ((1 : Int32) < 0 ∨ cl4.slots.size ≤ ((1 : Int32)).toNatClampNeg) := inb_of S4 ⟨by decide, by decide⟩
  have hat4 : cl4.slots[((1 : Int32)).toNatClampNeg]? = some (.double x1) := Has.at H4 hin4 rfl
  refine own_to (fun _ kont => X0.daload hx (j := (1 : Int32)) (v := (.double x1)) (by rw [e0]; exact Ar4.1) (State.isArrayOf_alike hZ.alike Ar4.2.1) Ar4.2.2 hin4 hat4 (g := (mkF m 16 #[.val (.ref a), .val (.int (1 : Int32)), .val (.int (1 : Int32))] [(.int (1 : Int32)), (.ref a)])) rfl rfl (hb hby d2_16) _ kont) ?_
  show own_Ends _ _ _ _ (s₁.setTop (mkF m 17 #[.val (.ref a), .val (.int 1), .val (.int 1)] [(.double x1)]))
  refine own_to (X0.ldc2DoubleC hx hown (mvT hZ (ow11 hw)) (g := (mkF m 17 #[.val (.ref a), .val (.int (1 : Int32)), .val (.int (1 : Int32))] [(.double x1)])) rfl (hb hby d2_17)) ?_
  show own_Ends _ _ _ _ (s₁.setTop (mkF m 20 #[.val (.ref a), .val (.int 1), .val (.int 1)] [(.double (9218868437227405312 : UInt64)), (.double x1)]))
  refine own_to (fun _ kont => XS.dcmpS X0.here hx rfl (v := (0 : Int32)) (hb hby d2_20) rfl (by rw [hx1]; exact dcmpV_self own_inf_nn .g) kont) ?_
  show own_Ends _ _ _ _ (s₁.setTop (mkF m 21 #[.val (.ref a), .val (.int 1), .val (.int 1)] [(.int 0)]))
  refine own_to (fun _ kont => XS.ifYes X0.here hx rfl (pc0 := 21) (pc' := 28) rfl (hb hby d2_21) rfl ((if0 _ _).trans (flt (by decide)).2.1) (by decide) (by decide) kont) ?_
  show own_Ends _ _ _ _ (s₁.setTop (mkF m 28 #[.val (.ref a), .val (.int 1), .val (.int 1)] []))
  refine own_to (fun _ kont => XS.iconst X0.here hx rfl (hb hby d2_28) kont) ?_
  show own_Ends _ _ _ _ (s₁.setTop (mkF m 29 #[.val (.ref a), .val (.int 1), .val (.int 1)] [(.int 0)]))
  refine own_to (fun _ kont => XS.istoreN X0.here hx rfl (hb hby d2_29) rfl (l' := #[.val (.ref a), .val (.int (0 : Int32)), .val (.int (1 : Int32))]) rfl kont) ?_
  show own_Ends _ _ _ _ (s₁.setTop (mkF m 30 #[.val (.ref a), .val (.int 0), .val (.int 1)] []))
  refine own_to (fun _ kont => XS.iinc X0.here hx rfl (hb hby d2_30) rfl (l' := #[.val (.ref a), .val (.int (0 : Int32)), .val (.int (2 : Int32))]) rfl kont) ?_
  show own_Ends _ _ _ _ (s₁.setTop (mkF m 33 #[.val (.ref a), .val (.int 0), .val (.int 2)] []))
  refine own_to (fun _ kont => XS.goto X0.here hx rfl (pc0 := 33) (pc' := 4) rfl (hb hby d2_33) (by decide) (by decide) kont) ?_
  show own_Ends _ _ _ _ (s₁.setTop (mkF m 4 #[.val (.ref a), .val (.int 0), .val (.int 2)] []))
  refine own_to (fun _ kont => XS.iloadN X0.here hx rfl (hb hby d2_4) rfl kont) ?_
  show own_Ends _ _ _ _ (s₁.setTop (mkF m 5 #[.val (.ref a), .val (.int 0), .val (.int 2)] [(.int 2)]))
  refine own_to (fun _ kont => XS.aloadN X0.here hx rfl (hb hby d2_5) rfl rfl kont) ?_
  show own_Ends _ _ _ _ (s₁.setTop (mkF m 6 #[.val (.ref a), .val (.int 0), .val (.int 2)] [(.ref a), (.int 2)]))
  obtain ⟨cl5, Ar5, q5, S5, M5, -, -⟩ := id V_a
  refine own_to (fun _ kont => X0.arraylength hx (by rw [e0]; exact Ar5.1) (State.isArrayOf_alike hZ.alike Ar5.2.1) (g := (mkF m 6 #[.val (.ref a), .val (.int (0 : Int32)), .val (.int (2 : Int32))] [(.ref a), (.int (2 : Int32))])) rfl rfl (hb hby d2_6) _ kont) ?_
  rw [len_of S5 M5]
  show own_Ends _ _ _ _ (s₁.setTop (mkF m 7 #[.val (.ref a), .val (.int 0), .val (.int 2)] [(.int 2), (.int 2)]))
  refine own_to (fun _ kont => XS.icmpYes X0.here hx rfl (pc0 := 7) (pc' := 36) rfl (hb hby d2_7) rfl (flt (by decide)).2.1 (by decide) (by decide) kont) ?_
  show own_Ends _ _ _ _ (s₁.setTop (mkF m 36 #[.val (.ref a), .val (.int 0), .val (.int 2)] []))
  refine own_to (fun _ kont => XS.iloadN X0.here hx rfl (hb hby d2_36) rfl kont) ?_
  show own_Ends _ _ _ _ (s₁.setTop (mkF m 37 #[.val (.ref a), .val (.int 0), .val (.int 2)] [(.int 0)]))
  refine own_leave X0 (v := some (.int (0 : Int32))) (fun h => by rw [Bd.returns] at h; cases h) ?_ (by decide) (by decide) (fun fs hr => retN X0 hx (t := .boolean) Bd.returns (by simp) (hb hby d2_37) hr)
  show Q_rmF21 Z a ka x0 x1 h0 n0 _ s₁.heap _
  rw [e0]
  exact ⟨rfl, N0, rfl⟩
theorem ef_rmF22 (m : MethodId) (a : Addr) : entryFrame m #[(.ref a)] 3 = mkF m 0 #[.val (.ref a), .unset, .unset] [] := by first | (simp [entryFrame, mkF, argsToLocals, Value.category]; done) | rfl | (rcases ref_cases hrf with rfl | ⟨q, rfl⟩ <;> rfl)
def Q_rmF22 (Z : State) (a : Addr) (ka : ClassId) (x0 : UInt64) (x1 : UInt64) (h0 : Heap) (n0 : Nat) (v : Option Value) (h : Heap) (L : List Loc) : Prop := v = some (.int (1 : Int32)) ∧ Fr n0 L ∧ h = h0
set_option maxRecDepth 65536 in
set_option maxHeartbeats 40000000 in
theorem rmF22 (l : Launch) (Z : State) (a0 : Array Value) (hw : ∀ d ∈ tables_1, d.before a0 Z = true) (ws : List Jvm.Cond) (a : Addr) (ka : ClassId) (x0 : UInt64) (x1 : UInt64) (h0 : Heap) (n0 : Nat) (O0 : Old Z n0 h0) (V_a : Arv Z h0 a ka .double (2 : Int32) [(.double x0), (.double x1)] (.double (FP.l2d 0))) (hx0 : Jvm.Free.Fl.Fin64 x0) (hx1 : Jvm.Free.Fl.Fin64 x1) :
    MetFree l oM1 (head1 (Jvm.Cond.code oM1 prog_87_method_8_code 3 (some .boolean) :: ws) ({ frames := 0, cells := 0, slots := 0, locals := 0 } : Room)) (fun aq_ U => aq_ = #[(.ref a)] ∧ Z.Warmed39 U.vm ∧ U.heap = h0) (fun _ _ _ _ _ => True) (fun _ U o U' => ∃ v L, o = .returned v ∧ Q_rmF22 Z a ka x0 x1 h0 n0 v U'.heap L ∧ FrameEnd U o U' L ({ frames := 0, cells := 0, slots := 0, locals := 0 } : Room).cells ({ frames := 0, cells := 0, slots := 0, locals := 0 } : Room).slots) := by
  refine MetFree.of_bodySF (plainFor_of_name pn_2) hisR ?_
  intro p e s m args below meth c s₁ Bd hml0 hP hK
  obtain ⟨rfl, hZ, hh⟩ := hP
  have hx := Bd.exec
  have hby := Bd.bytes
  have hml : c.maxLocals = 3 := hml0
  have hown : s.vm.findClass "com/example/lachesis/lachesis/core/solver/BlockEquations" = some m.cls := findClass_of_methodNamed Bd.named
  have hnm := (name_of_methodNamed Bd.named Bd.method).1
  have X0 : Stand p l e ({ frames := 0, cells := 0, slots := 0, locals := 0 } : Room) s m #[(.ref a)] below meth c s₁ [] 0 0 := Stand.of_body Bd
  have e0 : s₁.heap = h0 := by rw [← hh, Bd.state]; rfl
  have N0 := Fr.nil n0
  show own_Ends p.tables e below (own_P s (Q_rmF22 Z a ka x0 x1 h0 n0) ({ frames := 0, cells := 0, slots := 0, locals := 0 } : Room).cells ({ frames := 0, cells := 0, slots := 0, locals := 0 } : Room).slots) _
  refine own_cast (ef_rmF22 m a) ?_
  show own_Ends _ _ _ _ (s₁.setTop (mkF m 0 #[.val (.ref a), .unset, .unset] []))
  refine own_to (fun _ kont => XS.iconst X0.here hx rfl (hb hby d2_0) kont) ?_
  show own_Ends _ _ _ _ (s₁.setTop (mkF m 1 #[.val (.ref a), .unset, .unset] [(.int 1)]))
  refine own_to (fun _ kont => XS.istoreN X0.here hx rfl (hb hby d2_1) rfl (l' := #[.val (.ref a), .val (.int (1 : Int32)), .unset]) rfl kont) ?_
  show own_Ends _ _ _ _ (s₁.setTop (mkF m 2 #[.val (.ref a), .val (.int 1), .unset] []))
  refine own_to (fun _ kont => XS.iconst X0.here hx rfl (hb hby d2_2) kont) ?_
  show own_Ends _ _ _ _ (s₁.setTop (mkF m 3 #[.val (.ref a), .val (.int 1), .unset] [(.int 0)]))
  refine own_to (fun _ kont => XS.istoreN X0.here hx rfl (hb hby d2_3) rfl (l' := #[.val (.ref a), .val (.int (1 : Int32)), .val (.int (0 : Int32))]) rfl kont) ?_
  show own_Ends _ _ _ _ (s₁.setTop (mkF m 4 #[.val (.ref a), .val (.int 1), .val (.int 0)] []))
  refine own_to (fun _ kont => XS.iloadN X0.here hx rfl (hb hby d2_4) rfl kont) ?_
  show own_Ends _ _ _ _ (s₁.setTop (mkF m 5 #[.val (.ref a), .val (.int 1), .val (.int 0)] [(.int 0)]))
  refine own_to (fun _ kont => XS.aloadN X0.here hx rfl (hb hby d2_5) rfl rfl kont) ?_
  show own_Ends _ _ _ _ (s₁.setTop (mkF m 6 #[.val (.ref a), .val (.int 1), .val (.int 0)] [(.ref a), (.int 0)]))
  obtain ⟨cl1, Ar1, q1, S1, M1, -, -⟩ := id V_a
  refine own_to (fun _ kont => X0.arraylength hx (by rw [e0]; exact Ar1.1) (State.isArrayOf_alike hZ.alike Ar1.2.1) (g := (mkF m 6 #[.val (.ref a), .val (.int (1 : Int32)), .val (.int (0 : Int32))] [(.ref a), (.int (0 : Int32))])) rfl rfl (hb hby d2_6) _ kont) ?_
  rw [len_of S1 M1]
  show own_Ends _ _ _ _ (s₁.setTop (mkF m 7 #[.val (.ref a), .val (.int 1), .val (.int 0)] [(.int 2), (.int 0)]))
  refine own_to (fun _ kont => XS.icmpNo X0.here hx rfl (hb hby d2_7) rfl (tlt (by decide)).2.1 kont) ?_
  show own_Ends _ _ _ _ (s₁.setTop (mkF m 10 #[.val (.ref a), .val (.int 1), .val (.int 0)] []))
  refine own_to (fun _ kont => XS.iloadN X0.here hx rfl (hb hby d2_10) rfl kont) ?_
  show own_Ends _ _ _ _ (s₁.setTop (mkF m 11 #[.val (.ref a), .val (.int 1), .val (.int 0)] [(.int 1)]))
  refine own_to (fun _ kont => XS.ifNo X0.here hx rfl (hb hby d2_11) rfl ((if0 _ _).trans (feq (by decide)).1) kont) ?_
  show own_Ends _ _ _ _ (s₁.setTop (mkF m 14 #[.val (.ref a), .val (.int 1), .val (.int 0)] []))
  refine own_to (fun _ kont => XS.aloadN X0.here hx rfl (hb hby d2_14) rfl rfl kont) ?_
  show own_Ends _ _ _ _ (s₁.setTop (mkF m 15 #[.val (.ref a), .val (.int 1), .val (.int 0)] [(.ref a)]))
  refine own_to (fun _ kont => XS.iloadN X0.here hx rfl (hb hby d2_15) rfl kont) ?_
  show own_Ends _ _ _ _ (s₁.setTop (mkF m 16 #[.val (.ref a), .val (.int 1), .val (.int 0)] [(.int 0), (.ref a)]))
  obtain ⟨cl2, Ar2, q2, S2, M2, H2, G2⟩ := id V_a
  have hin2 : ¬ ((0 : Int32) < 0 ∨ cl2.slots.size ≤ ((0 : Int32)).toNatClampNeg) := inb_of S2 ⟨by decide, by decide⟩
  have hat2 : cl2.slots[((0 : Int32)).toNatClampNeg]? = some (.double x0) := Has.at H2 hin2 rfl
  refine own_to (fun _ kont => X0.daload hx (j := (0 : Int32)) (v := (.double x0)) (by rw [e0]; exact Ar2.1) (State.isArrayOf_alike hZ.alike Ar2.2.1) Ar2.2.2 hin2 hat2 (g := (mkF m 16 #[.val (.ref a), .val (.int (1 : Int32)), .val (.int (0 : Int32))] [(.int (0 : Int32)), (.ref a)])) rfl rfl (hb hby d2_16) _ kont) ?_
  show own_Ends _ _ _ _ (s₁.setTop (mkF m 17 #[.val (.ref a), .val (.int 1), .val (.int 0)] [(.double x0)]))
  refine own_to (X0.ldc2DoubleC hx hown (mvT hZ (ow11 hw)) (g := (mkF m 17 #[.val (.ref a), .val (.int (1 : Int32)), .val (.int (0 : Int32))] [(.double x0)])) rfl (hb hby d2_17)) ?_
  show own_Ends _ _ _ _ (s₁.setTop (mkF m 20 #[.val (.ref a), .val (.int 1), .val (.int 0)] [(.double (9218868437227405312 : UInt64)), (.double x0)]))
  refine own_to (fun _ kont => XS.dcmpS X0.here hx rfl (v := (-1 : Int32)) (hb hby d2_20) rfl (dcmp_pinf hx0 .g) kont) ?_
  show own_Ends _ _ _ _ (s₁.setTop (mkF m 21 #[.val (.ref a), .val (.int 1), .val (.int 0)] [(.int (-1 : Int32))]))
  refine own_to (fun _ kont => XS.ifNo X0.here hx rfl (hb hby d2_21) rfl ((if0 _ _).trans (tlt (by decide)).2.1) kont) ?_
  show own_Ends _ _ _ _ (s₁.setTop (mkF m 24 #[.val (.ref a), .val (.int 1), .val (.int 0)] []))
  refine own_to (fun _ kont => XS.iconst X0.here hx rfl (hb hby d2_24) kont) ?_
  show own_Ends _ _ _ _ (s₁.setTop (mkF m 25 #[.val (.ref a), .val (.int 1), .val (.int 0)] [(.int 1)]))
  refine own_to (fun _ kont => XS.goto X0.here hx rfl (pc0 := 25) (pc' := 29) rfl (hb hby d2_25) (by decide) (by decide) kont) ?_
  show own_Ends _ _ _ _ (s₁.setTop (mkF m 29 #[.val (.ref a), .val (.int 1), .val (.int 0)] [(.int 1)]))
  refine own_to (fun _ kont => XS.istoreN X0.here hx rfl (hb hby d2_29) rfl (l' := #[.val (.ref a), .val (.int (1 : Int32)), .val (.int (0 : Int32))]) rfl kont) ?_
  show own_Ends _ _ _ _ (s₁.setTop (mkF m 30 #[.val (.ref a), .val (.int 1), .val (.int 0)] []))
  refine own_to (fun _ kont => XS.iinc X0.here hx rfl (hb hby d2_30) rfl (l' := #[.val (.ref a), .val (.int (1 : Int32)), .val (.int (1 : Int32))]) rfl kont) ?_
  show own_Ends _ _ _ _ (s₁.setTop (mkF m 33 #[.val (.ref a), .val (.int 1), .val (.int 1)] []))
  refine own_to (fun _ kont => XS.goto X0.here hx rfl (pc0 := 33) (pc' := 4) rfl (hb hby d2_33) (by decide) (by decide) kont) ?_
  show own_Ends _ _ _ _ (s₁.setTop (mkF m 4 #[.val (.ref a), .val (.int 1), .val (.int 1)] []))
  refine own_to (fun _ kont => XS.iloadN X0.here hx rfl (hb hby d2_4) rfl kont) ?_
  show own_Ends _ _ _ _ (s₁.setTop (mkF m 5 #[.val (.ref a), .val (.int 1), .val (.int 1)] [(.int 1)]))
  refine own_to (fun _ kont => XS.aloadN X0.here hx rfl (hb hby d2_5) rfl rfl kont) ?_
  show own_Ends _ _ _ _ (s₁.setTop (mkF m 6 #[.val (.ref a), .val (.int 1), .val (.int 1)] [(.ref a), (.int 1)]))
  obtain ⟨cl3, Ar3, q3, S3, M3, -, -⟩ := id V_a
  refine own_to (fun _ kont => X0.arraylength hx (by rw [e0]; exact Ar3.1) (State.isArrayOf_alike hZ.alike Ar3.2.1) (g := (mkF m 6 #[.val (.ref a), .val (.int (1 : Int32)), .val (.int (1 : Int32))] [(.ref a), (.int (1 : Int32))])) rfl rfl (hb hby d2_6) _ kont) ?_
  rw [len_of S3 M3]
  show own_Ends _ _ _ _ (s₁.setTop (mkF m 7 #[.val (.ref a), .val (.int 1), .val (.int 1)] [(.int 2), (.int 1)]))
  refine own_to (fun _ kont => XS.icmpNo X0.here hx rfl (hb hby d2_7) rfl (tlt (by decide)).2.1 kont) ?_
  show own_Ends _ _ _ _ (s₁.setTop (mkF m 10 #[.val (.ref a), .val (.int 1), .val (.int 1)] []))
  refine own_to (fun _ kont => XS.iloadN X0.here hx rfl (hb hby d2_10) rfl kont) ?_
  show own_Ends _ _ _ _ (s₁.setTop (mkF m 11 #[.val (.ref a), .val (.int 1), .val (.int 1)] [(.int 1)]))
  refine own_to (fun _ kont => XS.ifNo X0.here hx rfl (hb hby d2_11) rfl ((if0 _ _).trans (feq (by decide)).1) kont) ?_
  show own_Ends _ _ _ _ (s₁.setTop (mkF m 14 #[.val (.ref a), .val (.int 1), .val (.int 1)] []))
  refine own_to (fun _ kont => XS.aloadN X0.here hx rfl (hb hby d2_14) rfl rfl kont) ?_
  show own_Ends _ _ _ _ (s₁.setTop (mkF m 15 #[.val (.ref a), .val (.int 1), .val (.int 1)] [(.ref a)]))
  refine own_to (fun _ kont => XS.iloadN X0.here hx rfl (hb hby d2_15) rfl kont) ?_
  show own_Ends _ _ _ _ (s₁.setTop (mkF m 16 #[.val (.ref a), .val (.int 1), .val (.int 1)] [(.int 1), (.ref a)]))
  obtain ⟨cl4, Ar4, q4, S4, M4, H4, G4⟩ := id V_a
  have hin4 : ¬ ((1 : Int32) < 0 ∨ cl4.slots.size ≤ ((1 : Int32)).toNatClampNeg) := inb_of S4 ⟨by decide, by decide⟩
  have hat4 : cl4.slots[((1 : Int32)).toNatClampNeg]? = some (.double x1) := Has.at H4 hin4 rfl
  refine own_to (fun _ kont => X0.daload hx (j := (1 : Int32)) (v := (.double x1)) (by rw [e0]; exact Ar4.1) (State.isArrayOf_alike hZ.alike Ar4.2.1) Ar4.2.2 hin4 hat4 (g := (mkF m 16 #[.val (.ref a), .val (.int (1 : Int32)), .val (.int (1 : Int32))] [(.int (1 : Int32)), (.ref a)])) rfl rfl (hb hby d2_16) _ kont) ?_
  show own_Ends _ _ _ _ (s₁.setTop (mkF m 17 #[.val (.ref a), .val (.int 1), .val (.int 1)] [(.double x1)]))
  refine own_to (X0.ldc2DoubleC hx hown (mvT hZ (ow11 hw)) (g := (mkF m 17 #[.val (.ref a), .val (.int (1 : Int32)), .val (.int (1 : Int32))] [(.double x1)])) rfl (hb hby d2_17)) ?_
  show own_Ends _ _ _ _ (s₁.setTop (mkF m 20 #[.val (.ref a), .val (.int 1), .val (.int 1)] [(.double (9218868437227405312 : UInt64)), (.double x1)]))
  refine own_to (fun _ kont => XS.dcmpS X0.here hx rfl (v := (-1 : Int32)) (hb hby d2_20) rfl (dcmp_pinf hx1 .g) kont) ?_
  show own_Ends _ _ _ _ (s₁.setTop (mkF m 21 #[.val (.ref a), .val (.int 1), .val (.int 1)] [(.int (-1 : Int32))]))
  refine own_to (fun _ kont => XS.ifNo X0.here hx rfl (hb hby d2_21) rfl ((if0 _ _).trans (tlt (by decide)).2.1) kont) ?_
  show own_Ends _ _ _ _ (s₁.setTop (mkF m 24 #[.val (.ref a), .val (.int 1), .val (.int 1)] []))
  refine own_to (fun _ kont => XS.iconst X0.here hx rfl (hb hby d2_24) kont) ?_
  show own_Ends _ _ _ _ (s₁.setTop (mkF m 25 #[.val (.ref a), .val (.int 1), .val (.int 1)] [(.int 1)]))
  refine own_to (fun _ kont => XS.goto X0.here hx rfl (pc0 := 25) (pc' := 29) rfl (hb hby d2_25) (by decide) (by decide) kont) ?_
  show own_Ends _ _ _ _ (s₁.setTop (mkF m 29 #[.val (.ref a), .val (.int 1), .val (.int 1)] [(.int 1)]))
  refine own_to (fun _ kont => XS.istoreN X0.here hx rfl (hb hby d2_29) rfl (l' := #[.val (.ref a), .val (.int (1 : Int32)), .val (.int (1 : Int32))]) rfl kont) ?_
  show own_Ends _ _ _ _ (s₁.setTop (mkF m 30 #[.val (.ref a), .val (.int 1), .val (.int 1)] []))
  refine own_to (fun _ kont => XS.iinc X0.here hx rfl (hb hby d2_30) rfl (l' := #[.val (.ref a), .val (.int (1 : Int32)), .val (.int (2 : Int32))]) rfl kont) ?_
  show own_Ends _ _ _ _ (s₁.setTop (mkF m 33 #[.val (.ref a), .val (.int 1), .val (.int 2)] []))
  refine own_to (fun _ kont => XS.goto X0.here hx rfl (pc0 := 33) (pc' := 4) rfl (hb hby d2_33) (by decide) (by decide) kont) ?_
  show own_Ends _ _ _ _ (s₁.setTop (mkF m 4 #[.val (.ref a), .val (.int 1), .val (.int 2)] []))
  refine own_to (fun _ kont => XS.iloadN X0.here hx rfl (hb hby d2_4) rfl kont) ?_
  show own_Ends _ _ _ _ (s₁.setTop (mkF m 5 #[.val (.ref a), .val (.int 1), .val (.int 2)] [(.int 2)]))
  refine own_to (fun _ kont => XS.aloadN X0.here hx rfl (hb hby d2_5) rfl rfl kont) ?_
  show own_Ends _ _ _ _ (s₁.setTop (mkF m 6 #[.val (.ref a), .val (.int 1), .val (.int 2)] [(.ref a), (.int 2)]))
  obtain ⟨cl5, Ar5, q5, S5, M5, -, -⟩ := id V_a
  refine own_to (fun _ kont => X0.arraylength hx (by rw [e0]; exact Ar5.1) (State.isArrayOf_alike hZ.alike Ar5.2.1) (g := (mkF m 6 #[.val (.ref a), .val (.int (1 : Int32)), .val (.int (2 : Int32))] [(.ref a), (.int (2 : Int32))])) rfl rfl (hb hby d2_6) _ kont) ?_
  rw [len_of S5 M5]
  show own_Ends _ _ _ _ (s₁.setTop (mkF m 7 #[.val (.ref a), .val (.int 1), .val (.int 2)] [(.int 2), (.int 2)]))
  refine own_to (fun _ kont => XS.icmpYes X0.here hx rfl (pc0 := 7) (pc' := 36) rfl (hb hby d2_7) rfl (flt (by decide)).2.1 (by decide) (by decide) kont) ?_
  show own_Ends _ _ _ _ (s₁.setTop (mkF m 36 #[.val (.ref a), .val (.int 1), .val (.int 2)] []))
  refine own_to (fun _ kont => XS.iloadN X0.here hx rfl (hb hby d2_36) rfl kont) ?_
  show own_Ends _ _ _ _ (s₁.setTop (mkF m 37 #[.val (.ref a), .val (.int 1), .val (.int 2)] [(.int 1)]))
  refine own_leave X0 (v := some (.int (1 : Int32))) (fun h => by rw [Bd.returns] at h; cases h) ?_ (by decide) (by decide) (fun fs hr => retN X0 hx (t := .boolean) Bd.returns (by simp) (hb hby d2_37) hr)
  show Q_rmF22 Z a ka x0 x1 h0 n0 _ s₁.heap _
  rw [e0]
  exact ⟨rfl, N0, rfl⟩
theorem ef_rmF30 (m : MethodId) (a : Addr) : entryFrame m #[(.ref a)] 3 = mkF m 0 #[.val (.ref a), .unset, .unset] [] := by first | (simp [entryFrame, mkF, argsToLocals, Value.category]; done) | rfl | (rcases ref_cases hrf with rfl | ⟨q, rfl⟩ <;> rfl)
def Q_rmF30 (Z : State) (a : Addr) (ka : ClassId) (x0 : UInt64) (x1 : UInt64) (x2 : UInt64) (h0 : Heap) (n0 : Nat) (v : Option Value) (h : Heap) (L : List Loc) : Prop := v = some (.int (0 : Int32)) ∧ Fr n0 L ∧ h = h0
set_option maxRecDepth 65536 in
set_option maxHeartbeats 40000000 in
theorem rmF30 (l : Launch) (Z : State) (a0 : Array Value) (hw : ∀ d ∈ tables_1, d.before a0 Z = true) (ws : List Jvm.Cond) (a : Addr) (ka : ClassId) (x0 : UInt64) (x1 : UInt64) (x2 : UInt64) (h0 : Heap) (n0 : Nat) (O0 : Old Z n0 h0) (V_a : Arv Z h0 a ka .double (3 : Int32) [(.double x0), (.double x1), (.double x2)] (.double (FP.l2d 0))) (hx0 : x0 = (9218868437227405312 : UInt64)) :
    MetFree l oM1 (head1 (Jvm.Cond.code oM1 prog_87_method_8_code 3 (some .boolean) :: ws) ({ frames := 0, cells := 0, slots := 0, locals := 0 } : Room)) (fun aq_ U => aq_ = #[(.ref a)] ∧ Z.Warmed39 U.vm ∧ U.heap = h0) (fun _ _ _ _ _ => True) (fun _ U o U' => ∃ v L, o = .returned v ∧ Q_rmF30 Z a ka x0 x1 x2 h0 n0 v U'.heap L ∧ FrameEnd U o U' L ({ frames := 0, cells := 0, slots := 0, locals := 0 } : Room).cells ({ frames := 0, cells := 0, slots := 0, locals := 0 } : Room).slots) := by
  refine MetFree.of_bodySF (plainFor_of_name pn_2) hisR ?_
  intro p e s m args below meth c s₁ Bd hml0 hP hK
  obtain ⟨rfl, hZ, hh⟩ := hP
  have hx := Bd.exec
  have hby := Bd.bytes
  have hml : c.maxLocals = 3 := hml0
  have hown : s.vm.findClass "com/example/lachesis/lachesis/core/solver/BlockEquations" = some m.cls := findClass_of_methodNamed Bd.named
  have hnm := (name_of_methodNamed Bd.named Bd.method).1
  have X0 : Stand p l e ({ frames := 0, cells := 0, slots := 0, locals := 0 } : Room) s m #[(.ref a)] below meth c s₁ [] 0 0 := Stand.of_body Bd
  have e0 : s₁.heap = h0 := by rw [← hh, Bd.state]; rfl
  have N0 := Fr.nil n0
  show own_Ends p.tables e below (own_P s (Q_rmF30 Z a ka x0 x1 x2 h0 n0) ({ frames := 0, cells := 0, slots := 0, locals := 0 } : Room).cells ({ frames := 0, cells := 0, slots := 0, locals := 0 } : Room).slots) _
  refine own_cast (ef_rmF30 m a) ?_
  show own_Ends _ _ _ _ (s₁.setTop (mkF m 0 #[.val (.ref a), .unset, .unset] []))
  refine own_to (fun _ kont => XS.iconst X0.here hx rfl (hb hby d2_0) kont) ?_
  show own_Ends _ _ _ _ (s₁.setTop (mkF m 1 #[.val (.ref a), .unset, .unset] [(.int 1)]))
  refine own_to (fun _ kont => XS.istoreN X0.here hx rfl (hb hby d2_1) rfl (l' := #[.val (.ref a), .val (.int (1 : Int32)), .unset]) rfl kont) ?_
  show own_Ends _ _ _ _ (s₁.setTop (mkF m 2 #[.val (.ref a), .val (.int 1), .unset] []))
  refine own_to (fun _ kont => XS.iconst X0.here hx rfl (hb hby d2_2) kont) ?_
  show own_Ends _ _ _ _ (s₁.setTop (mkF m 3 #[.val (.ref a), .val (.int 1), .unset] [(.int 0)]))
  refine own_to (fun _ kont => XS.istoreN X0.here hx rfl (hb hby d2_3) rfl (l' := #[.val (.ref a), .val (.int (1 : Int32)), .val (.int (0 : Int32))]) rfl kont) ?_
  show own_Ends _ _ _ _ (s₁.setTop (mkF m 4 #[.val (.ref a), .val (.int 1), .val (.int 0)] []))
  refine own_to (fun _ kont => XS.iloadN X0.here hx rfl (hb hby d2_4) rfl kont) ?_
  show own_Ends _ _ _ _ (s₁.setTop (mkF m 5 #[.val (.ref a), .val (.int 1), .val (.int 0)] [(.int 0)]))
  refine own_to (fun _ kont => XS.aloadN X0.here hx rfl (hb hby d2_5) rfl rfl kont) ?_
  show own_Ends _ _ _ _ (s₁.setTop (mkF m 6 #[.val (.ref a), .val (.int 1), .val (.int 0)] [(.ref a), (.int 0)]))
  obtain ⟨cl1, Ar1, q1, S1, M1, -, -⟩ := id V_a
  refine own_to (fun _ kont => X0.arraylength hx (by rw [e0]; exact Ar1.1) (State.isArrayOf_alike hZ.alike Ar1.2.1) (g := (mkF m 6 #[.val (.ref a), .val (.int (1 : Int32)), .val (.int (0 : Int32))] [(.ref a), (.int (0 : Int32))])) rfl rfl (hb hby d2_6) _ kont) ?_
  rw [len_of S1 M1]
  show own_Ends _ _ _ _ (s₁.setTop (mkF m 7 #[.val (.ref a), .val (.int 1), .val (.int 0)] [(.int 3), (.int 0)]))
  refine own_to (fun _ kont => XS.icmpNo X0.here hx rfl (hb hby d2_7) rfl (tlt (by decide)).2.1 kont) ?_
  show own_Ends _ _ _ _ (s₁.setTop (mkF m 10 #[.val (.ref a), .val (.int 1), .val (.int 0)] []))
  refine own_to (fun _ kont => XS.iloadN X0.here hx rfl (hb hby d2_10) rfl kont) ?_
  show own_Ends _ _ _ _ (s₁.setTop (mkF m 11 #[.val (.ref a), .val (.int 1), .val (.int 0)] [(.int 1)]))
  refine own_to (fun _ kont => XS.ifNo X0.here hx rfl (hb hby d2_11) rfl ((if0 _ _).trans (feq (by decide)).1) kont) ?_
  show own_Ends _ _ _ _ (s₁.setTop (mkF m 14 #[.val (.ref a), .val (.int 1), .val (.int 0)] []))
  refine own_to (fun _ kont => XS.aloadN X0.here hx rfl (hb hby d2_14) rfl rfl kont) ?_
  show own_Ends _ _ _ _ (s₁.setTop (mkF m 15 #[.val (.ref a), .val (.int 1), .val (.int 0)] [(.ref a)]))
  refine own_to (fun _ kont => XS.iloadN X0.here hx rfl (hb hby d2_15) rfl kont) ?_
  show own_Ends _ _ _ _ (s₁.setTop (mkF m 16 #[.val (.ref a), .val (.int 1), .val (.int 0)] [(.int 0), (.ref a)]))
  obtain ⟨cl2, Ar2, q2, S2, M2, H2, G2⟩ := id V_a
  have hin2 : ¬ ((0 : Int32) < 0 ∨ cl2.slots.size ≤ ((0 : Int32)).toNatClampNeg) := inb_of S2 ⟨by decide, by decide⟩
  have hat2 : cl2.slots[((0 : Int32)).toNatClampNeg]? = some (.double x0) := Has.at H2 hin2 rfl
  refine own_to (fun _ kont => X0.daload hx (j := (0 : Int32)) (v := (.double x0)) (by rw [e0]; exact Ar2.1) (State.isArrayOf_alike hZ.alike Ar2.2.1) Ar2.2.2 hin2 hat2 (g := (mkF m 16 #[.val (.ref a), .val (.int (1 : Int32)), .val (.int (0 : Int32))] [(.int (0 : Int32)), (.ref a)])) rfl rfl (hb hby d2_16) _ kont) ?_
  show own_Ends _ _ _ _ (s₁.setTop (mkF m 17 #[.val (.ref a), .val (.int 1), .val (.int 0)] [(.double x0)]))
  refine own_to (X0.ldc2DoubleC hx hown (mvT hZ (ow11 hw)) (g := (mkF m 17 #[.val (.ref a), .val (.int (1 : Int32)), .val (.int (0 : Int32))] [(.double x0)])) rfl (hb hby d2_17)) ?_
  show own_Ends _ _ _ _ (s₁.setTop (mkF m 20 #[.val (.ref a), .val (.int 1), .val (.int 0)] [(.double (9218868437227405312 : UInt64)), (.double x0)]))
  refine own_to (fun _ kont => XS.dcmpS X0.here hx rfl (v := (0 : Int32)) (hb hby d2_20) rfl (by rw [hx0]; exact dcmpV_self own_inf_nn .g) kont) ?_
  show own_Ends _ _ _ _ (s₁.setTop (mkF m 21 #[.val (.ref a), .val (.int 1), .val (.int 0)] [(.int 0)]))
  refine own_to (fun _ kont => XS.ifYes X0.here hx rfl (pc0 := 21) (pc' := 28) rfl (hb hby d2_21) rfl ((if0 _ _).trans (flt (by decide)).2.1) (by decide) (by decide) kont) ?_
  show own_Ends _ _ _ _ (s₁.setTop (mkF m 28 #[.val (.ref a), .val (.int 1), .val (.int 0)] []))
  refine own_to (fun _ kont => XS.iconst X0.here hx rfl (hb hby d2_28) kont) ?_
  show own_Ends _ _ _ _ (s₁.setTop (mkF m 29 #[.val (.ref a), .val (.int 1), .val (.int 0)] [(.int 0)]))
  refine own_to (fun _ kont => XS.istoreN X0.here hx rfl (hb hby d2_29) rfl (l' := #[.val (.ref a), .val (.int (0 : Int32)), .val (.int (0 : Int32))]) rfl kont) ?_
  show own_Ends _ _ _ _ (s₁.setTop (mkF m 30 #[.val (.ref a), .val (.int 0), .val (.int 0)] []))
  refine own_to (fun _ kont => XS.iinc X0.here hx rfl (hb hby d2_30) rfl (l' := #[.val (.ref a), .val (.int (0 : Int32)), .val (.int (1 : Int32))]) rfl kont) ?_
  show own_Ends _ _ _ _ (s₁.setTop (mkF m 33 #[.val (.ref a), .val (.int 0), .val (.int 1)] []))
  refine own_to (fun _ kont => XS.goto X0.here hx rfl (pc0 := 33) (pc' := 4) rfl (hb hby d2_33) (by decide) (by decide) kont) ?_
  show own_Ends _ _ _ _ (s₁.setTop (mkF m 4 #[.val (.ref a), .val (.int 0), .val (.int 1)] []))
  refine own_to (fun _ kont => XS.iloadN X0.here hx rfl (hb hby d2_4) rfl kont) ?_
  show own_Ends _ _ _ _ (s₁.setTop (mkF m 5 #[.val (.ref a), .val (.int 0), .val (.int 1)] [(.int 1)]))
  refine own_to (fun _ kont => XS.aloadN X0.here hx rfl (hb hby d2_5) rfl rfl kont) ?_
  show own_Ends _ _ _ _ (s₁.setTop (mkF m 6 #[.val (.ref a), .val (.int 0), .val (.int 1)] [(.ref a), (.int 1)]))
  obtain ⟨cl3, Ar3, q3, S3, M3, -, -⟩ := id V_a
  refine own_to (fun _ kont => X0.arraylength hx (by rw [e0]; exact Ar3.1) (State.isArrayOf_alike hZ.alike Ar3.2.1) (g := (mkF m 6 #[.val (.ref a), .val (.int (0 : Int32)), .val (.int (1 : Int32))] [(.ref a), (.int (1 : Int32))])) rfl rfl (hb hby d2_6) _ kont) ?_
  rw [len_of S3 M3]
  show own_Ends _ _ _ _ (s₁.setTop (mkF m 7 #[.val (.ref a), .val (.int 0), .val (.int 1)] [(.int 3), (.int 1)]))
  refine own_to (fun _ kont => XS.icmpNo X0.here hx rfl (hb hby d2_7) rfl (tlt (by decide)).2.1 kont) ?_
  show own_Ends _ _ _ _ (s₁.setTop (mkF m 10 #[.val (.ref a), .val (.int 0), .val (.int 1)] []))
  refine own_to (fun _ kont => XS.iloadN X0.here hx rfl (hb hby d2_10) rfl kont) ?_
  show own_Ends _ _ _ _ (s₁.setTop (mkF m 11 #[.val (.ref a), .val (.int 0), .val (.int 1)] [(.int 0)]))
  refine own_to (fun _ kont => XS.ifYes X0.here hx rfl (pc0 := 11) (pc' := 36) rfl (hb hby d2_11) rfl ((if0 _ _).trans (teq (by decide)).1) (by decide) (by decide) kont) ?_
  show own_Ends _ _ _ _ (s₁.setTop (mkF m 36 #[.val (.ref a), .val (.int 0), .val (.int 1)] []))
  refine own_to (fun _ kont => XS.iloadN X0.here hx rfl (hb hby d2_36) rfl kont) ?_
  show own_Ends _ _ _ _ (s₁.setTop (mkF m 37 #[.val (.ref a), .val (.int 0), .val (.int 1)] [(.int 0)]))
  refine own_leave X0 (v := some (.int (0 : Int32))) (fun h => by rw [Bd.returns] at h; cases h) ?_ (by decide) (by decide) (fun fs hr => retN X0 hx (t := .boolean) Bd.returns (by simp) (hb hby d2_37) hr)
  show Q_rmF30 Z a ka x0 x1 x2 h0 n0 _ s₁.heap _
  rw [e0]
  exact ⟨rfl, N0, rfl⟩
theorem ef_rmF31 (m : MethodId) (a : Addr) : entryFrame m #[(.ref a)] 3 = mkF m 0 #[.val (.ref a), .unset, .unset] [] := by first | (simp [entryFrame, mkF, argsToLocals, Value.category]; done) | rfl | (rcases ref_cases hrf with rfl | ⟨q, rfl⟩ <;> rfl)
def Q_rmF31 (Z : State) (a : Addr) (ka : ClassId) (x0 : UInt64) (x1 : UInt64) (x2 : UInt64) (h0 : Heap) (n0 : Nat) (v : Option Value) (h : Heap) (L : List Loc) : Prop := v = some (.int (0 : Int32)) ∧ Fr n0 L ∧ h = h0
set_option maxRecDepth 65536 in
set_option maxHeartbeats 40000000 in
theorem rmF31 (l : Launch) (Z : State) (a0 : Array Value) (hw : ∀ d ∈ tables_1, d.before a0 Z = true) (ws : List Jvm.Cond) (a : Addr) (ka : ClassId) (x0 : UInt64) (x1 : UInt64) (x2 : UInt64) (h0 : Heap) (n0 : Nat) (O0 : Old Z n0 h0) (V_a : Arv Z h0 a ka .double (3 : Int32) [(.double x0), (.double x1), (.double x2)] (.double (FP.l2d 0))) (hx0 : Jvm.Free.Fl.Fin64 x0) (hx1 : x1 = (9218868437227405312 : UInt64)) :
    MetFree l oM1 (head1 (Jvm.Cond.code oM1 prog_87_method_8_code 3 (some .boolean) :: ws) ({ frames := 0, cells := 0, slots := 0, locals := 0 } : Room)) (fun aq_ U => aq_ = #[(.ref a)] ∧ Z.Warmed39 U.vm ∧ U.heap = h0) (fun _ _ _ _ _ => True) (fun _ U o U' => ∃ v L, o = .returned v ∧ Q_rmF31 Z a ka x0 x1 x2 h0 n0 v U'.heap L ∧ FrameEnd U o U' L ({ frames := 0, cells := 0, slots := 0, locals := 0 } : Room).cells ({ frames := 0, cells := 0, slots := 0, locals := 0 } : Room).slots) := by
  refine MetFree.of_bodySF (plainFor_of_name pn_2) hisR ?_
  intro p e s m args below meth c s₁ Bd hml0 hP hK
  obtain ⟨rfl, hZ, hh⟩ := hP
  have hx := Bd.exec
  have hby := Bd.bytes
  have hml : c.maxLocals = 3 := hml0
  have hown : s.vm.findClass "com/example/lachesis/lachesis/core/solver/BlockEquations" = some m.cls := findClass_of_methodNamed Bd.named
  have hnm := (name_of_methodNamed Bd.named Bd.method).1
  have X0 : Stand p l e ({ frames := 0, cells := 0, slots := 0, locals := 0 } : Room) s m #[(.ref a)] below meth c s₁ [] 0 0 := Stand.of_body Bd
  have e0 : s₁.heap = h0 := by rw [← hh, Bd.state]; rfl
  have N0 := Fr.nil n0
  show own_Ends p.tables e below (own_P s (Q_rmF31 Z a ka x0 x1 x2 h0 n0) ({ frames := 0, cells := 0, slots := 0, locals := 0 } : Room).cells ({ frames := 0, cells := 0, slots := 0, locals := 0 } : Room).slots) _
  refine own_cast (ef_rmF31 m a) ?_
  show own_Ends _ _ _ _ (s₁.setTop (mkF m 0 #[.val (.ref a), .unset, .unset] []))
  refine own_to (fun _ kont => XS.iconst X0.here hx rfl (hb hby d2_0) kont) ?_
  show own_Ends _ _ _ _ (s₁.setTop (mkF m 1 #[.val (.ref a), .unset, .unset] [(.int 1)]))
  refine own_to (fun _ kont => XS.istoreN X0.here hx rfl (hb hby d2_1) rfl (l' := #[.val (.ref a), .val (.int (1 : Int32)), .unset]) rfl kont) ?_
  show own_Ends _ _ _ _ (s₁.setTop (mkF m 2 #[.val (.ref a), .val (.int 1), .unset] []))
  refine own_to (fun _ kont => XS.iconst X0.here hx rfl (hb hby d2_2) kont) ?_
  show own_Ends _ _ _ _ (s₁.setTop (mkF m 3 #[.val (.ref a), .val (.int 1), .unset] [(.int 0)]))
  refine own_to (fun _ kont => XS.istoreN X0.here hx rfl (hb hby d2_3) rfl (l' := #[.val (.ref a), .val (.int (1 : Int32)), .val (.int (0 : Int32))]) rfl kont) ?_
  show own_Ends _ _ _ _ (s₁.setTop (mkF m 4 #[.val (.ref a), .val (.int 1), .val (.int 0)] []))
  refine own_to (fun _ kont => XS.iloadN X0.here hx rfl (hb hby d2_4) rfl kont) ?_
  show own_Ends _ _ _ _ (s₁.setTop (mkF m 5 #[.val (.ref a), .val (.int 1), .val (.int 0)] [(.int 0)]))
  refine own_to (fun _ kont => XS.aloadN X0.here hx rfl (hb hby d2_5) rfl rfl kont) ?_
  show own_Ends _ _ _ _ (s₁.setTop (mkF m 6 #[.val (.ref a), .val (.int 1), .val (.int 0)] [(.ref a), (.int 0)]))
  obtain ⟨cl1, Ar1, q1, S1, M1, -, -⟩ := id V_a
  refine own_to (fun _ kont => X0.arraylength hx (by rw [e0]; exact Ar1.1) (State.isArrayOf_alike hZ.alike Ar1.2.1) (g := (mkF m 6 #[.val (.ref a), .val (.int (1 : Int32)), .val (.int (0 : Int32))] [(.ref a), (.int (0 : Int32))])) rfl rfl (hb hby d2_6) _ kont) ?_
  rw [len_of S1 M1]
  show own_Ends _ _ _ _ (s₁.setTop (mkF m 7 #[.val (.ref a), .val (.int 1), .val (.int 0)] [(.int 3), (.int 0)]))
  refine own_to (fun _ kont => XS.icmpNo X0.here hx rfl (hb hby d2_7) rfl (tlt (by decide)).2.1 kont) ?_
  show own_Ends _ _ _ _ (s₁.setTop (mkF m 10 #[.val (.ref a), .val (.int 1), .val (.int 0)] []))
  refine own_to (fun _ kont => XS.iloadN X0.here hx rfl (hb hby d2_10) rfl kont) ?_
  show own_Ends _ _ _ _ (s₁.setTop (mkF m 11 #[.val (.ref a), .val (.int 1), .val (.int 0)] [(.int 1)]))
  refine own_to (fun _ kont => XS.ifNo X0.here hx rfl (hb hby d2_11) rfl ((if0 _ _).trans (feq (by decide)).1) kont) ?_
  show own_Ends _ _ _ _ (s₁.setTop (mkF m 14 #[.val (.ref a), .val (.int 1), .val (.int 0)] []))
  refine own_to (fun _ kont => XS.aloadN X0.here hx rfl (hb hby d2_14) rfl rfl kont) ?_
  show own_Ends _ _ _ _ (s₁.setTop (mkF m 15 #[.val (.ref a), .val (.int 1), .val (.int 0)] [(.ref a)]))
  refine own_to (fun _ kont => XS.iloadN X0.here hx rfl (hb hby d2_15) rfl kont) ?_
  show own_Ends _ _ _ _ (s₁.setTop (mkF m 16 #[.val (.ref a), .val (.int 1), .val (.int 0)] [(.int 0), (.ref a)]))
  obtain ⟨cl2, Ar2, q2, S2, M2, H2, G2⟩ := id V_a
  have hin2 : ¬ ((0 : Int32) < 0 ∨ cl2.slots.size ≤ ((0 : Int32)).toNatClampNeg) := inb_of S2 ⟨by decide, by decide⟩
  have hat2 : cl2.slots[((0 : Int32)).toNatClampNeg]? = some (.double x0) := Has.at H2 hin2 rfl
  refine own_to (fun _ kont => X0.daload hx (j := (0 : Int32)) (v := (.double x0)) (by rw [e0]; exact Ar2.1) (State.isArrayOf_alike hZ.alike Ar2.2.1) Ar2.2.2 hin2 hat2 (g := (mkF m 16 #[.val (.ref a), .val (.int (1 : Int32)), .val (.int (0 : Int32))] [(.int (0 : Int32)), (.ref a)])) rfl rfl (hb hby d2_16) _ kont) ?_
  show own_Ends _ _ _ _ (s₁.setTop (mkF m 17 #[.val (.ref a), .val (.int 1), .val (.int 0)] [(.double x0)]))
  refine own_to (X0.ldc2DoubleC hx hown (mvT hZ (ow11 hw)) (g := (mkF m 17 #[.val (.ref a), .val (.int (1 : Int32)), .val (.int (0 : Int32))] [(.double x0)])) rfl (hb hby d2_17)) ?_
  show own_Ends _ _ _ _ (s₁.setTop (mkF m 20 #[.val (.ref a), .val (.int 1), .val (.int 0)] [(.double (9218868437227405312 : UInt64)), (.double x0)]))
  refine own_to (fun _ kont => XS.dcmpS X0.here hx rfl (v := (-1 : Int32)) (hb hby d2_20) rfl (dcmp_pinf hx0 .g) kont) ?_
  show own_Ends _ _ _ _ (s₁.setTop (mkF m 21 #[.val (.ref a), .val (.int 1), .val (.int 0)] [(.int (-1 : Int32))]))
  refine own_to (fun _ kont => XS.ifNo X0.here hx rfl (hb hby d2_21) rfl ((if0 _ _).trans (tlt (by decide)).2.1) kont) ?_
  show own_Ends _ _ _ _ (s₁.setTop (mkF m 24 #[.val (.ref a), .val (.int 1), .val (.int 0)] []))
  refine own_to (fun _ kont => XS.iconst X0.here hx rfl (hb hby d2_24) kont) ?_
  show own_Ends _ _ _ _ (s₁.setTop (mkF m 25 #[.val (.ref a), .val (.int 1), .val (.int 0)] [(.int 1)]))
  refine own_to (fun _ kont => XS.goto X0.here hx rfl (pc0 := 25) (pc' := 29) rfl (hb hby d2_25) (by decide) (by decide) kont) ?_
  show own_Ends _ _ _ _ (s₁.setTop (mkF m 29 #[.val (.ref a), .val (.int 1), .val (.int 0)] [(.int 1)]))
  refine own_to (fun _ kont => XS.istoreN X0.here hx rfl (hb hby d2_29) rfl (l' := #[.val (.ref a), .val (.int (1 : Int32)), .val (.int (0 : Int32))]) rfl kont) ?_
  show own_Ends _ _ _ _ (s₁.setTop (mkF m 30 #[.val (.ref a), .val (.int 1), .val (.int 0)] []))
  refine own_to (fun _ kont => XS.iinc X0.here hx rfl (hb hby d2_30) rfl (l' := #[.val (.ref a), .val (.int (1 : Int32)), .val (.int (1 : Int32))]) rfl kont) ?_
  show own_Ends _ _ _ _ (s₁.setTop (mkF m 33 #[.val (.ref a), .val (.int 1), .val (.int 1)] []))
  refine own_to (fun _ kont => XS.goto X0.here hx rfl (pc0 := 33) (pc' := 4) rfl (hb hby d2_33) (by decide) (by decide) kont) ?_
  show own_Ends _ _ _ _ (s₁.setTop (mkF m 4 #[.val (.ref a), .val (.int 1), .val (.int 1)] []))
  refine own_to (fun _ kont => XS.iloadN X0.here hx rfl (hb hby d2_4) rfl kont) ?_
  show own_Ends _ _ _ _ (s₁.setTop (mkF m 5 #[.val (.ref a), .val (.int 1), .val (.int 1)] [(.int 1)]))
  refine own_to (fun _ kont => XS.aloadN X0.here hx rfl (hb hby d2_5) rfl rfl kont) ?_
  show own_Ends _ _ _ _ (s₁.setTop (mkF m 6 #[.val (.ref a), .val (.int 1), .val (.int 1)] [(.ref a), (.int 1)]))
  obtain ⟨cl3, Ar3, q3, S3, M3, -, -⟩ := id V_a
  refine own_to (fun _ kont => X0.arraylength hx (by rw [e0]; exact Ar3.1) (State.isArrayOf_alike hZ.alike Ar3.2.1) (g := (mkF m 6 #[.val (.ref a), .val (.int (1 : Int32)), .val (.int (1 : Int32))] [(.ref a), (.int (1 : Int32))])) rfl rfl (hb hby d2_6) _ kont) ?_
  rw [len_of S3 M3]
  show own_Ends _ _ _ _ (s₁.setTop (mkF m 7 #[.val (.ref a), .val (.int 1), .val (.int 1)] [(.int 3), (.int 1)]))
  refine own_to (fun _ kont => XS.icmpNo X0.here hx rfl (hb hby d2_7) rfl (tlt (by decide)).2.1 kont) ?_
  show own_Ends _ _ _ _ (s₁.setTop (mkF m 10 #[.val (.ref a), .val (.int 1), .val (.int 1)] []))
  refine own_to (fun _ kont => XS.iloadN X0.here hx rfl (hb hby d2_10) rfl kont) ?_
  show own_Ends _ _ _ _ (s₁.setTop (mkF m 11 #[.val (.ref a), .val (.int 1), .val (.int 1)] [(.int 1)]))
  refine own_to (fun _ kont => XS.ifNo X0.here hx rfl (hb hby d2_11) rfl ((if0 _ _).trans (feq (by decide)).1) kont) ?_
  show own_Ends _ _ _ _ (s₁.setTop (mkF m 14 #[.val (.ref a), .val (.int 1), .val (.int 1)] []))
  refine own_to (fun _ kont => XS.aloadN X0.here hx rfl (hb hby d2_14) rfl rfl kont) ?_
  show own_Ends _ _ _ _ (s₁.setTop (mkF m 15 #[.val (.ref a), .val (.int 1), .val (.int 1)] [(.ref a)]))
  refine own_to (fun _ kont => XS.iloadN X0.here hx rfl (hb hby d2_15) rfl kont) ?_
  show own_Ends _ _ _ _ (s₁.setTop (mkF m 16 #[.val (.ref a), .val (.int 1), .val (.int 1)] [(.int 1), (.ref a)]))
  obtain ⟨cl4, Ar4, q4, S4, M4, H4, G4⟩ := id V_a
  have hin4 : ¬ ((1 : Int32) < 0 ∨ cl4.slots.size ≤ ((1 : Int32)).toNatClampNeg) := inb_of S4 ⟨by decide, by decide⟩
  have hat4 : cl4.slots[((1 : Int32)).toNatClampNeg]? = some (.double x1) := Has.at H4 hin4 rfl
  refine own_to (fun _ kont => X0.daload hx (j := (1 : Int32)) (v := (.double x1)) (by rw [e0]; exact Ar4.1) (State.isArrayOf_alike hZ.alike Ar4.2.1) Ar4.2.2 hin4 hat4 (g := (mkF m 16 #[.val (.ref a), .val (.int (1 : Int32)), .val (.int (1 : Int32))] [(.int (1 : Int32)), (.ref a)])) rfl rfl (hb hby d2_16) _ kont) ?_
  show own_Ends _ _ _ _ (s₁.setTop (mkF m 17 #[.val (.ref a), .val (.int 1), .val (.int 1)] [(.double x1)]))
  refine own_to (X0.ldc2DoubleC hx hown (mvT hZ (ow11 hw)) (g := (mkF m 17 #[.val (.ref a), .val (.int (1 : Int32)), .val (.int (1 : Int32))] [(.double x1)])) rfl (hb hby d2_17)) ?_
  show own_Ends _ _ _ _ (s₁.setTop (mkF m 20 #[.val (.ref a), .val (.int 1), .val (.int 1)] [(.double (9218868437227405312 : UInt64)), (.double x1)]))
  refine own_to (fun _ kont => XS.dcmpS X0.here hx rfl (v := (0 : Int32)) (hb hby d2_20) rfl (by rw [hx1]; exact dcmpV_self own_inf_nn .g) kont) ?_
  show own_Ends _ _ _ _ (s₁.setTop (mkF m 21 #[.val (.ref a), .val (.int 1), .val (.int 1)] [(.int 0)]))
  refine own_to (fun _ kont => XS.ifYes X0.here hx rfl (pc0 := 21) (pc' := 28) rfl (hb hby d2_21) rfl ((if0 _ _).trans (flt (by decide)).2.1) (by decide) (by decide) kont) ?_
  show own_Ends _ _ _ _ (s₁.setTop (mkF m 28 #[.val (.ref a), .val (.int 1), .val (.int 1)] []))
  refine own_to (fun _ kont => XS.iconst X0.here hx rfl (hb hby d2_28) kont) ?_
  show own_Ends _ _ _ _ (s₁.setTop (mkF m 29 #[.val (.ref a), .val (.int 1), .val (.int 1)] [(.int 0)]))
  refine own_to (fun _ kont => XS.istoreN X0.here hx rfl (hb hby d2_29) rfl (l' := #[.val (.ref a), .val (.int (0 : Int32)), .val (.int (1 : Int32))]) rfl kont) ?_
  show own_Ends _ _ _ _ (s₁.setTop (mkF m 30 #[.val (.ref a), .val (.int 0), .val (.int 1)] []))
  refine own_to (fun _ kont => XS.iinc X0.here hx rfl (hb hby d2_30) rfl (l' := #[.val (.ref a), .val (.int (0 : Int32)), .val (.int (2 : Int32))]) rfl kont) ?_
  show own_Ends _ _ _ _ (s₁.setTop (mkF m 33 #[.val (.ref a), .val (.int 0), .val (.int 2)] []))
  refine own_to (fun _ kont => XS.goto X0.here hx rfl (pc0 := 33) (pc' := 4) rfl (hb hby d2_33) (by decide) (by decide) kont) ?_
  show own_Ends _ _ _ _ (s₁.setTop (mkF m 4 #[.val (.ref a), .val (.int 0), .val (.int 2)] []))
  refine own_to (fun _ kont => XS.iloadN X0.here hx rfl (hb hby d2_4) rfl kont) ?_
  show own_Ends _ _ _ _ (s₁.setTop (mkF m 5 #[.val (.ref a), .val (.int 0), .val (.int 2)] [(.int 2)]))
  refine own_to (fun _ kont => XS.aloadN X0.here hx rfl (hb hby d2_5) rfl rfl kont) ?_
  show own_Ends _ _ _ _ (s₁.setTop (mkF m 6 #[.val (.ref a), .val (.int 0), .val (.int 2)] [(.ref a), (.int 2)]))
  obtain ⟨cl5, Ar5, q5, S5, M5, -, -⟩ := id V_a
  refine own_to (fun _ kont => X0.arraylength hx (by rw [e0]; exact Ar5.1) (State.isArrayOf_alike hZ.alike Ar5.2.1) (g := (mkF m 6 #[.val (.ref a), .val (.int (0 : Int32)), .val (.int (2 : Int32))] [(.ref a), (.int (2 : Int32))])) rfl rfl (hb hby d2_6) _ kont) ?_
  rw [len_of S5 M5]
  show own_Ends _ _ _ _ (s₁.setTop (mkF m 7 #[.val (.ref a), .val (.int 0), .val (.int 2)] [(.int 3), (.int 2)]))
  refine own_to (fun _ kont => XS.icmpNo X0.here hx rfl (hb hby d2_7) rfl (tlt (by decide)).2.1 kont) ?_
  show own_Ends _ _ _ _ (s₁.setTop (mkF m 10 #[.val (.ref a), .val (.int 0), .val (.int 2)] []))
  refine own_to (fun _ kont => XS.iloadN X0.here hx rfl (hb hby d2_10) rfl kont) ?_
  show own_Ends _ _ _ _ (s₁.setTop (mkF m 11 #[.val (.ref a), .val (.int 0), .val (.int 2)] [(.int 0)]))
  refine own_to (fun _ kont => XS.ifYes X0.here hx rfl (pc0 := 11) (pc' := 36) rfl (hb hby d2_11) rfl ((if0 _ _).trans (teq (by decide)).1) (by decide) (by decide) kont) ?_
  show own_Ends _ _ _ _ (s₁.setTop (mkF m 36 #[.val (.ref a), .val (.int 0), .val (.int 2)] []))
  refine own_to (fun _ kont => XS.iloadN X0.here hx rfl (hb hby d2_36) rfl kont) ?_
  show own_Ends _ _ _ _ (s₁.setTop (mkF m 37 #[.val (.ref a), .val (.int 0), .val (.int 2)] [(.int 0)]))
  refine own_leave X0 (v := some (.int (0 : Int32))) (fun h => by rw [Bd.returns] at h; cases h) ?_ (by decide) (by decide) (fun fs hr => retN X0 hx (t := .boolean) Bd.returns (by simp) (hb hby d2_37) hr)
  show Q_rmF31 Z a ka x0 x1 x2 h0 n0 _ s₁.heap _
  rw [e0]
  exact ⟨rfl, N0, rfl⟩
theorem ef_rmF32 (m : MethodId) (a : Addr) : entryFrame m #[(.ref a)] 3 = mkF m 0 #[.val (.ref a), .unset, .unset] [] := by first | (simp [entryFrame, mkF, argsToLocals, Value.category]; done) | rfl | (rcases ref_cases hrf with rfl | ⟨q, rfl⟩ <;> rfl)
def Q_rmF32 (Z : State) (a : Addr) (ka : ClassId) (x0 : UInt64) (x1 : UInt64) (x2 : UInt64) (h0 : Heap) (n0 : Nat) (v : Option Value) (h : Heap) (L : List Loc) : Prop := v = some (.int (0 : Int32)) ∧ Fr n0 L ∧ h = h0
set_option maxRecDepth 65536 in
set_option maxHeartbeats 40000000 in
theorem rmF32 (l : Launch) (Z : State) (a0 : Array Value) (hw : ∀ d ∈ tables_1, d.before a0 Z = true) (ws : List Jvm.Cond) (a : Addr) (ka : ClassId) (x0 : UInt64) (x1 : UInt64) (x2 : UInt64) (h0 : Heap) (n0 : Nat) (O0 : Old Z n0 h0) (V_a : Arv Z h0 a ka .double (3 : Int32) [(.double x0), (.double x1), (.double x2)] (.double (FP.l2d 0))) (hx0 : Jvm.Free.Fl.Fin64 x0) (hx1 : Jvm.Free.Fl.Fin64 x1) (hx2 : x2 = (9218868437227405312 : UInt64)) :
    MetFree l oM1 (head1 (Jvm.Cond.code oM1 prog_87_method_8_code 3 (some .boolean) :: ws) ({ frames := 0, cells := 0, slots := 0, locals := 0 } : Room)) (fun aq_ U => aq_ = #[(.ref a)] ∧ Z.Warmed39 U.vm ∧ U.heap = h0) (fun _ _ _ _ _ => True) (fun _ U o U' => ∃ v L, o = .returned v ∧ Q_rmF32 Z a ka x0 x1 x2 h0 n0 v U'.heap L ∧ FrameEnd U o U' L ({ frames := 0, cells := 0, slots := 0, locals := 0 } : Room).cells ({ frames := 0, cells := 0, slots := 0, locals := 0 } : Room).slots) := by
  refine MetFree.of_bodySF (plainFor_of_name pn_2) hisR ?_
  intro p e s m args below meth c s₁ Bd hml0 hP hK
  obtain ⟨rfl, hZ, hh⟩ := hP
  have hx := Bd.exec
  have hby := Bd.bytes
  have hml : c.maxLocals = 3 := hml0
  have hown : s.vm.findClass "com/example/lachesis/lachesis/core/solver/BlockEquations" = some m.cls := findClass_of_methodNamed Bd.named
  have hnm := (name_of_methodNamed Bd.named Bd.method).1
  have X0 : Stand p l e ({ frames := 0, cells := 0, slots := 0, locals := 0 } : Room) s m #[(.ref a)] below meth c s₁ [] 0 0 := Stand.of_body Bd
  have e0 : s₁.heap = h0 := by rw [← hh, Bd.state]; rfl
  have N0 := Fr.nil n0
  show own_Ends p.tables e below (own_P s (Q_rmF32 Z a ka x0 x1 x2 h0 n0) ({ frames := 0, cells := 0, slots := 0, locals := 0 } : Room).cells ({ frames := 0, cells := 0, slots := 0, locals := 0 } : Room).slots) _
  refine own_cast (ef_rmF32 m a) ?_
  show own_Ends _ _ _ _ (s₁.setTop (mkF m 0 #[.val (.ref a), .unset, .unset] []))
  refine own_to (fun _ kont => XS.iconst X0.here hx rfl (hb hby d2_0) kont) ?_
  show own_Ends _ _ _ _ (s₁.setTop (mkF m 1 #[.val (.ref a), .unset, .unset] [(.int 1)]))
  refine own_to (fun _ kont => XS.istoreN X0.here hx rfl (hb hby d2_1) rfl (l' := #[.val (.ref a), .val (.int (1 : Int32)), .unset]) rfl kont) ?_
  show own_Ends _ _ _ _ (s₁.setTop (mkF m 2 #[.val (.ref a), .val (.int 1), .unset] []))
  refine own_to (fun _ kont => XS.iconst X0.here hx rfl (hb hby d2_2) kont) ?_
  show own_Ends _ _ _ _ (s₁.setTop (mkF m 3 #[.val (.ref a), .val (.int 1), .unset] [(.int 0)]))
  refine own_to (fun _ kont => XS.istoreN X0.here hx rfl (hb hby d2_3) rfl (l' := #[.val (.ref a), .val (.int (1 : Int32)), .val (.int (0 : Int32))]) rfl kont) ?_
  show own_Ends _ _ _ _ (s₁.setTop (mkF m 4 #[.val (.ref a), .val (.int 1), .val (.int 0)] []))
  refine own_to (fun _ kont => XS.iloadN X0.here hx rfl (hb hby d2_4) rfl kont) ?_
  show own_Ends _ _ _ _ (s₁.setTop (mkF m 5 #[.val (.ref a), .val (.int 1), .val (.int 0)] [(.int 0)]))
  refine own_to (fun _ kont => XS.aloadN X0.here hx rfl (hb hby d2_5) rfl rfl kont) ?_
  show own_Ends _ _ _ _ (s₁.setTop (mkF m 6 #[.val (.ref a), .val (.int 1), .val (.int 0)] [(.ref a), (.int 0)]))
  obtain ⟨cl1, Ar1, q1, S1, M1, -, -⟩ := id V_a
  refine own_to (fun _ kont => X0.arraylength hx (by rw [e0]; exact Ar1.1) (State.isArrayOf_alike hZ.alike Ar1.2.1) (g := (mkF m 6 #[.val (.ref a), .val (.int (1 : Int32)), .val (.int (0 : Int32))] [(.ref a), (.int (0 : Int32))])) rfl rfl (hb hby d2_6) _ kont) ?_
  rw [len_of S1 M1]
  show own_Ends _ _ _ _ (s₁.setTop (mkF m 7 #[.val (.ref a), .val (.int 1), .val (.int 0)] [(.int 3), (.int 0)]))
  refine own_to (fun _ kont => XS.icmpNo X0.here hx rfl (hb hby d2_7) rfl (tlt (by decide)).2.1 kont) ?_
  show own_Ends _ _ _ _ (s₁.setTop (mkF m 10 #[.val (.ref a), .val (.int 1), .val (.int 0)] []))
  refine own_to (fun _ kont => XS.iloadN X0.here hx rfl (hb hby d2_10) rfl kont) ?_
  show own_Ends _ _ _ _ (s₁.setTop (mkF m 11 #[.val (.ref a), .val (.int 1), .val (.int 0)] [(.int 1)]))
  refine own_to (fun _ kont => XS.ifNo X0.here hx rfl (hb hby d2_11) rfl ((if0 _ _).trans (feq (by decide)).1) kont) ?_
  show own_Ends _ _ _ _ (s₁.setTop (mkF m 14 #[.val (.ref a), .val (.int 1), .val (.int 0)] []))
  refine own_to (fun _ kont => XS.aloadN X0.here hx rfl (hb hby d2_14) rfl rfl kont) ?_
  show own_Ends _ _ _ _ (s₁.setTop (mkF m 15 #[.val (.ref a), .val (.int 1), .val (.int 0)] [(.ref a)]))
  refine own_to (fun _ kont => XS.iloadN X0.here hx rfl (hb hby d2_15) rfl kont) ?_
  show own_Ends _ _ _ _ (s₁.setTop (mkF m 16 #[.val (.ref a), .val (.int 1), .val (.int 0)] [(.int 0), (.ref a)]))
  obtain ⟨cl2, Ar2, q2, S2, M2, H2, G2⟩ := id V_a
  have hin2 : ¬ ((0 : Int32) < 0 ∨ cl2.slots.size ≤ ((0 : Int32)).toNatClampNeg) := inb_of S2 ⟨by decide, by decide⟩
  have hat2 : cl2.slots[((0 : Int32)).toNatClampNeg]? = some (.double x0) := Has.at H2 hin2 rfl
  refine own_to (fun _ kont => X0.daload hx (j := (0 : Int32)) (v := (.double x0)) (by rw [e0]; exact Ar2.1) (State.isArrayOf_alike hZ.alike Ar2.2.1) Ar2.2.2 hin2 hat2 (g := (mkF m 16 #[.val (.ref a), .val (.int (1 : Int32)), .val (.int (0 : Int32))] [(.int (0 : Int32)), (.ref a)])) rfl rfl (hb hby d2_16) _ kont) ?_
  show own_Ends _ _ _ _ (s₁.setTop (mkF m 17 #[.val (.ref a), .val (.int 1), .val (.int 0)] [(.double x0)]))
  refine own_to (X0.ldc2DoubleC hx hown (mvT hZ (ow11 hw)) (g := (mkF m 17 #[.val (.ref a), .val (.int (1 : Int32)), .val (.int (0 : Int32))] [(.double x0)])) rfl (hb hby d2_17)) ?_
  show own_Ends _ _ _ _ (s₁.setTop (mkF m 20 #[.val (.ref a), .val (.int 1), .val (.int 0)] [(.double (9218868437227405312 : UInt64)), (.double x0)]))
  refine own_to (fun _ kont => XS.dcmpS X0.here hx rfl (v := (-1 : Int32)) (hb hby d2_20) rfl (dcmp_pinf hx0 .g) kont) ?_
  show own_Ends _ _ _ _ (s₁.setTop (mkF m 21 #[.val (.ref a), .val (.int 1), .val (.int 0)] [(.int (-1 : Int32))]))
  refine own_to (fun _ kont => XS.ifNo X0.here hx rfl (hb hby d2_21) rfl ((if0 _ _).trans (tlt (by decide)).2.1) kont) ?_
  show own_Ends _ _ _ _ (s₁.setTop (mkF m 24 #[.val (.ref a), .val (.int 1), .val (.int 0)] []))
  refine own_to (fun _ kont => XS.iconst X0.here hx rfl (hb hby d2_24) kont) ?_
  show own_Ends _ _ _ _ (s₁.setTop (mkF m 25 #[.val (.ref a), .val (.int 1), .val (.int 0)] [(.int 1)]))
  refine own_to (fun _ kont => XS.goto X0.here hx rfl (pc0 := 25) (pc' := 29) rfl (hb hby d2_25) (by decide) (by decide) kont) ?_
  show own_Ends _ _ _ _ (s₁.setTop (mkF m 29 #[.val (.ref a), .val (.int 1), .val (.int 0)] [(.int 1)]))
  refine own_to (fun _ kont => XS.istoreN X0.here hx rfl (hb hby d2_29) rfl (l' := #[.val (.ref a), .val (.int (1 : Int32)), .val (.int (0 : Int32))]) rfl kont) ?_
  show own_Ends _ _ _ _ (s₁.setTop (mkF m 30 #[.val (.ref a), .val (.int 1), .val (.int 0)] []))
  refine own_to (fun _ kont => XS.iinc X0.here hx rfl (hb hby d2_30) rfl (l' := #[.val (.ref a), .val (.int (1 : Int32)), .val (.int (1 : Int32))]) rfl kont) ?_
  show own_Ends _ _ _ _ (s₁.setTop (mkF m 33 #[.val (.ref a), .val (.int 1), .val (.int 1)] []))
  refine own_to (fun _ kont => XS.goto X0.here hx rfl (pc0 := 33) (pc' := 4) rfl (hb hby d2_33) (by decide) (by decide) kont) ?_
  show own_Ends _ _ _ _ (s₁.setTop (mkF m 4 #[.val (.ref a), .val (.int 1), .val (.int 1)] []))
  refine own_to (fun _ kont => XS.iloadN X0.here hx rfl (hb hby d2_4) rfl kont) ?_
  show own_Ends _ _ _ _ (s₁.setTop (mkF m 5 #[.val (.ref a), .val (.int 1), .val (.int 1)] [(.int 1)]))
  refine own_to (fun _ kont => XS.aloadN X0.here hx rfl (hb hby d2_5) rfl rfl kont) ?_
  show own_Ends _ _ _ _ (s₁.setTop (mkF m 6 #[.val (.ref a), .val (.int 1), .val (.int 1)] [(.ref a), (.int 1)]))
  obtain ⟨cl3, Ar3, q3, S3, M3, -, -⟩ := id V_a
  refine own_to (fun _ kont => X0.arraylength hx (by rw [e0]; exact Ar3.1) (State.isArrayOf_alike hZ.alike Ar3.2.1) (g := (mkF m 6 #[.val (.ref a), .val (.int (1 : Int32)), .val (.int (1 : Int32))] [(.ref a), (.int (1 : Int32))])) rfl rfl (hb hby d2_6) _ kont) ?_
  rw [len_of S3 M3]
  show own_Ends _ _ _ _ (s₁.setTop (mkF m 7 #[.val (.ref a), .val (.int 1), .val (.int 1)] [(.int 3), (.int 1)]))
  refine own_to (fun _ kont => XS.icmpNo X0.here hx rfl (hb hby d2_7) rfl (tlt (by decide)).2.1 kont) ?_
  show own_Ends _ _ _ _ (s₁.setTop (mkF m 10 #[.val (.ref a), .val (.int 1), .val (.int 1)] []))
  refine own_to (fun _ kont => XS.iloadN X0.here hx rfl (hb hby d2_10) rfl kont) ?_
  show own_Ends _ _ _ _ (s₁.setTop (mkF m 11 #[.val (.ref a), .val (.int 1), .val (.int 1)] [(.int 1)]))
  refine own_to (fun _ kont => XS.ifNo X0.here hx rfl (hb hby d2_11) rfl ((if0 _ _).trans (feq (by decide)).1) kont) ?_
  show own_Ends _ _ _ _ (s₁.setTop (mkF m 14 #[.val (.ref a), .val (.int 1), .val (.int 1)] []))
  refine own_to (fun _ kont => XS.aloadN X0.here hx rfl (hb hby d2_14) rfl rfl kont) ?_
  show own_Ends _ _ _ _ (s₁.setTop (mkF m 15 #[.val (.ref a), .val (.int 1), .val (.int 1)] [(.ref a)]))
  refine own_to (fun _ kont => XS.iloadN X0.here hx rfl (hb hby d2_15) rfl kont) ?_
  show own_Ends _ _ _ _ (s₁.setTop (mkF m 16 #[.val (.ref a), .val (.int 1), .val (.int 1)] [(.int 1), (.ref a)]))
  obtain ⟨cl4, Ar4, q4, S4, M4, H4, G4⟩ := id V_a
  have hin4 : ¬ ((1 : Int32) < 0 ∨ cl4.slots.size ≤ ((1 : Int32)).toNatClampNeg) := inb_of S4 ⟨by decide, by decide⟩
  have hat4 : cl4.slots[((1 : Int32)).toNatClampNeg]? = some (.double x1) := Has.at H4 hin4 rfl
  refine own_to (fun _ kont => X0.daload hx (j := (1 : Int32)) (v := (.double x1)) (by rw [e0]; exact Ar4.1) (State.isArrayOf_alike hZ.alike Ar4.2.1) Ar4.2.2 hin4 hat4 (g := (mkF m 16 #[.val (.ref a), .val (.int (1 : Int32)), .val (.int (1 : Int32))] [(.int (1 : Int32)), (.ref a)])) rfl rfl (hb hby d2_16) _ kont) ?_
  show own_Ends _ _ _ _ (s₁.setTop (mkF m 17 #[.val (.ref a), .val (.int 1), .val (.int 1)] [(.double x1)]))
  refine own_to (X0.ldc2DoubleC hx hown (mvT hZ (ow11 hw)) (g := (mkF m 17 #[.val (.ref a), .val (.int (1 : Int32)), .val (.int (1 : Int32))] [(.double x1)])) rfl (hb hby d2_17)) ?_
  show own_Ends _ _ _ _ (s₁.setTop (mkF m 20 #[.val (.ref a), .val (.int 1), .val (.int 1)] [(.double (9218868437227405312 : UInt64)), (.double x1)]))
  refine own_to (fun _ kont => XS.dcmpS X0.here hx rfl (v := (-1 : Int32)) (hb hby d2_20) rfl (dcmp_pinf hx1 .g) kont) ?_
  show own_Ends _ _ _ _ (s₁.setTop (mkF m 21 #[.val (.ref a), .val (.int 1), .val (.int 1)] [(.int (-1 : Int32))]))
  refine own_to (fun _ kont => XS.ifNo X0.here hx rfl (hb hby d2_21) rfl ((if0 _ _).trans (tlt (by decide)).2.1) kont) ?_
  show own_Ends _ _ _ _ (s₁.setTop (mkF m 24 #[.val (.ref a), .val (.int 1), .val (.int 1)] []))
  refine own_to (fun _ kont => XS.iconst X0.here hx rfl (hb hby d2_24) kont) ?_
  show own_Ends _ _ _ _ (s₁.setTop (mkF m 25 #[.val (.ref a), .val (.int 1), .val (.int 1)] [(.int 1)]))
  refine own_to (fun _ kont => XS.goto X0.here hx rfl (pc0 := 25) (pc' := 29) rfl (hb hby d2_25) (by decide) (by decide) kont) ?_
  show own_Ends _ _ _ _ (s₁.setTop (mkF m 29 #[.val (.ref a), .val (.int 1), .val (.int 1)] [(.int 1)]))
  refine own_to (fun _ kont => XS.istoreN X0.here hx rfl (hb hby d2_29) rfl (l' := #[.val (.ref a), .val (.int (1 : Int32)), .val (.int (1 : Int32))]) rfl kont) ?_
  show own_Ends _ _ _ _ (s₁.setTop (mkF m 30 #[.val (.ref a), .val (.int 1), .val (.int 1)] []))
  refine own_to (fun _ kont => XS.iinc X0.here hx rfl (hb hby d2_30) rfl (l' := #[.val (.ref a), .val (.int (1 : Int32)), .val (.int (2 : Int32))]) rfl kont) ?_
  show own_Ends _ _ _ _ (s₁.setTop (mkF m 33 #[.val (.ref a), .val (.int 1), .val (.int 2)] []))
  refine own_to (fun _ kont => XS.goto X0.here hx rfl (pc0 := 33) (pc' := 4) rfl (hb hby d2_33) (by decide) (by decide) kont) ?_
  show own_Ends _ _ _ _ (s₁.setTop (mkF m 4 #[.val (.ref a), .val (.int 1), .val (.int 2)] []))
  refine own_to (fun _ kont => XS.iloadN X0.here hx rfl (hb hby d2_4) rfl kont) ?_
  show own_Ends _ _ _ _ (s₁.setTop (mkF m 5 #[.val (.ref a), .val (.int 1), .val (.int 2)] [(.int 2)]))
  refine own_to (fun _ kont => XS.aloadN X0.here hx rfl (hb hby d2_5) rfl rfl kont) ?_
  show own_Ends _ _ _ _ (s₁.setTop (mkF m 6 #[.val (.ref a), .val (.int 1), .val (.int 2)] [(.ref a), (.int 2)]))
  obtain ⟨cl5, Ar5, q5, S5, M5, -, -⟩ := id V_a
  refine own_to (fun _ kont => X0.arraylength hx (by rw [e0]; exact Ar5.1) (State.isArrayOf_alike hZ.alike Ar5.2.1) (g := (mkF m 6 #[.val (.ref a), .val (.int (1 : Int32)), .val (.int (2 : Int32))] [(.ref a), (.int (2 : Int32))])) rfl rfl (hb hby d2_6) _ kont) ?_
  rw [len_of S5 M5]
  show own_Ends _ _ _ _ (s₁.setTop (mkF m 7 #[.val (.ref a), .val (.int 1), .val (.int 2)] [(.int 3), (.int 2)]))
  refine own_to (fun _ kont => XS.icmpNo X0.here hx rfl (hb hby d2_7) rfl (tlt (by decide)).2.1 kont) ?_
  show own_Ends _ _ _ _ (s₁.setTop (mkF m 10 #[.val (.ref a), .val (.int 1), .val (.int 2)] []))
  refine own_to (fun _ kont => XS.iloadN X0.here hx rfl (hb hby d2_10) rfl kont) ?_
  show own_Ends _ _ _ _ (s₁.setTop (mkF m 11 #[.val (.ref a), .val (.int 1), .val (.int 2)] [(.int 1)]))
  refine own_to (fun _ kont => XS.ifNo X0.here hx rfl (hb hby d2_11) rfl ((if0 _ _).trans (feq (by decide)).1) kont) ?_
  show own_Ends _ _ _ _ (s₁.setTop (mkF m 14 #[.val (.ref a), .val (.int 1), .val (.int 2)] []))
  refine own_to (fun _ kont => XS.aloadN X0.here hx rfl (hb hby d2_14) rfl rfl kont) ?_
  show own_Ends _ _ _ _ (s₁.setTop (mkF m 15 #[.val (.ref a), .val (.int 1), .val (.int 2)] [(.ref a)]))
  refine own_to (fun _ kont => XS.iloadN X0.here hx rfl (hb hby d2_15) rfl kont) ?_
  show own_Ends _ _ _ _ (s₁.setTop (mkF m 16 #[.val (.ref a), .val (.int 1), .val (.int 2)] [(.int 2), (.ref a)]))
  obtain ⟨cl6, Ar6, q6, S6, M6, H6, G6⟩ := id V_a
  have hin6 : ¬ ((2 : Int32) < 0 ∨ cl6.slots.size ≤ ((2 : Int32)).toNatClampNeg) := inb_of S6 ⟨by decide, by decide⟩
  have hat6 : cl6.slots[((2 : Int32)).toNatClampNeg]? = some (.double x2) := Has.at H6 hin6 rfl
  refine own_to (fun _ kont => X0.daload hx (j := (2 : Int32)) (v := (.double x2)) (by rw [e0]; exact Ar6.1) (State.isArrayOf_alike hZ.alike Ar6.2.1) Ar6.2.2 hin6 hat6 (g := (mkF m 16 #[.val (.ref a), .val (.int (1 : Int32)), .val (.int (2 : Int32))] [(.int (2 : Int32)), (.ref a)])) rfl rfl (hb hby d2_16) _ kont) ?_
  show own_Ends _ _ _ _ (s₁.setTop (mkF m 17 #[.val (.ref a), .val (.int 1), .val (.int 2)] [(.double x2)]))
  refine own_to (X0.ldc2DoubleC hx hown (mvT hZ (ow11 hw)) (g := (mkF m 17 #[.val (.ref a), .val (.int (1 : Int32)), .val (.int (2 : Int32))] [(.double x2)])) rfl (hb hby d2_17)) ?_
  show own_Ends _ _ _ _ (s₁.setTop (mkF m 20 #[.val (.ref a), .val (.int 1), .val (.int 2)] [(.double (9218868437227405312 : UInt64)), (.double x2)]))
  refine own_to (fun _ kont => XS.dcmpS X0.here hx rfl (v := (0 : Int32)) (hb hby d2_20) rfl (by rw [hx2]; exact dcmpV_self own_inf_nn .g) kont) ?_
  show own_Ends _ _ _ _ (s₁.setTop (mkF m 21 #[.val (.ref a), .val (.int 1), .val (.int 2)] [(.int 0)]))
  refine own_to (fun _ kont => XS.ifYes X0.here hx rfl (pc0 := 21) (pc' := 28) rfl (hb hby d2_21) rfl ((if0 _ _).trans (flt (by decide)).2.1) (by decide) (by decide) kont) ?_
  show own_Ends _ _ _ _ (s₁.setTop (mkF m 28 #[.val (.ref a), .val (.int 1), .val (.int 2)] []))
  refine own_to (fun _ kont => XS.iconst X0.here hx rfl (hb hby d2_28) kont) ?_
  show own_Ends _ _ _ _ (s₁.setTop (mkF m 29 #[.val (.ref a), .val (.int 1), .val (.int 2)] [(.int 0)]))
  refine own_to (fun _ kont => XS.istoreN X0.here hx rfl (hb hby d2_29) rfl (l' := #[.val (.ref a), .val (.int (0 : Int32)), .val (.int (2 : Int32))]) rfl kont) ?_
  show own_Ends _ _ _ _ (s₁.setTop (mkF m 30 #[.val (.ref a), .val (.int 0), .val (.int 2)] []))
  refine own_to (fun _ kont => XS.iinc X0.here hx rfl (hb hby d2_30) rfl (l' := #[.val (.ref a), .val (.int (0 : Int32)), .val (.int (3 : Int32))]) rfl kont) ?_
  show own_Ends _ _ _ _ (s₁.setTop (mkF m 33 #[.val (.ref a), .val (.int 0), .val (.int 3)] []))
  refine own_to (fun _ kont => XS.goto X0.here hx rfl (pc0 := 33) (pc' := 4) rfl (hb hby d2_33) (by decide) (by decide) kont) ?_
  show own_Ends _ _ _ _ (s₁.setTop (mkF m 4 #[.val (.ref a), .val (.int 0), .val (.int 3)] []))
  refine own_to (fun _ kont => XS.iloadN X0.here hx rfl (hb hby d2_4) rfl kont) ?_
  show own_Ends _ _ _ _ (s₁.setTop (mkF m 5 #[.val (.ref a), .val (.int 0), .val (.int 3)] [(.int 3)]))
  refine own_to (fun _ kont => XS.aloadN X0.here hx rfl (hb hby d2_5) rfl rfl kont) ?_
  show own_Ends _ _ _ _ (s₁.setTop (mkF m 6 #[.val (.ref a), .val (.int 0), .val (.int 3)] [(.ref a), (.int 3)]))
  obtain ⟨cl7, Ar7, q7, S7, M7, -, -⟩ := id V_a
  refine own_to (fun _ kont => X0.arraylength hx (by rw [e0]; exact Ar7.1) (State.isArrayOf_alike hZ.alike Ar7.2.1) (g := (mkF m 6 #[.val (.ref a), .val (.int (0 : Int32)), .val (.int (3 : Int32))] [(.ref a), (.int (3 : Int32))])) rfl rfl (hb hby d2_6) _ kont) ?_
  rw [len_of S7 M7]
  show own_Ends _ _ _ _ (s₁.setTop (mkF m 7 #[.val (.ref a), .val (.int 0), .val (.int 3)] [(.int 3), (.int 3)]))
  refine own_to (fun _ kont => XS.icmpYes X0.here hx rfl (pc0 := 7) (pc' := 36) rfl (hb hby d2_7) rfl (flt (by decide)).2.1 (by decide) (by decide) kont) ?_
  show own_Ends _ _ _ _ (s₁.setTop (mkF m 36 #[.val (.ref a), .val (.int 0), .val (.int 3)] []))
  refine own_to (fun _ kont => XS.iloadN X0.here hx rfl (hb hby d2_36) rfl kont) ?_
  show own_Ends _ _ _ _ (s₁.setTop (mkF m 37 #[.val (.ref a), .val (.int 0), .val (.int 3)] [(.int 0)]))
  refine own_leave X0 (v := some (.int (0 : Int32))) (fun h => by rw [Bd.returns] at h; cases h) ?_ (by decide) (by decide) (fun fs hr => retN X0 hx (t := .boolean) Bd.returns (by simp) (hb hby d2_37) hr)
  show Q_rmF32 Z a ka x0 x1 x2 h0 n0 _ s₁.heap _
  rw [e0]
  exact ⟨rfl, N0, rfl⟩
theorem ef_rmF33 (m : MethodId) (a : Addr) : entryFrame m #[(.ref a)] 3 = mkF m 0 #[.val (.ref a), .unset, .unset] [] := by first | (simp [entryFrame, mkF, argsToLocals, Value.category]; done) | rfl | (rcases ref_cases hrf with rfl | ⟨q, rfl⟩ <;> rfl)
def Q_rmF33 (Z : State) (a : Addr) (ka : ClassId) (x0 : UInt64) (x1 : UInt64) (x2 : UInt64) (h0 : Heap) (n0 : Nat) (v : Option Value) (h : Heap) (L : List Loc) : Prop := v = some (.int (1 : Int32)) ∧ Fr n0 L ∧ h = h0
set_option maxRecDepth 65536 in
set_option maxHeartbeats 40000000 in
theorem rmF33 (l : Launch) (Z : State) (a0 : Array Value) (hw : ∀ d ∈ tables_1, d.before a0 Z = true) (ws : List Jvm.Cond) (a : Addr) (ka : ClassId) (x0 : UInt64) (x1 : UInt64) (x2 : UInt64) (h0 : Heap) (n0 : Nat) (O0 : Old Z n0 h0) (V_a : Arv Z h0 a ka .double (3 : Int32) [(.double x0), (.double x1), (.double x2)] (.double (FP.l2d 0))) (hx0 : Jvm.Free.Fl.Fin64 x0) (hx1 : Jvm.Free.Fl.Fin64 x1) (hx2 : Jvm.Free.Fl.Fin64 x2) :
    MetFree l oM1 (head1 (Jvm.Cond.code oM1 prog_87_method_8_code 3 (some .boolean) :: ws) ({ frames := 0, cells := 0, slots := 0, locals := 0 } : Room)) (fun aq_ U => aq_ = #[(.ref a)] ∧ Z.Warmed39 U.vm ∧ U.heap = h0) (fun _ _ _ _ _ => True) (fun _ U o U' => ∃ v L, o = .returned v ∧ Q_rmF33 Z a ka x0 x1 x2 h0 n0 v U'.heap L ∧ FrameEnd U o U' L ({ frames := 0, cells := 0, slots := 0, locals := 0 } : Room).cells ({ frames := 0, cells := 0, slots := 0, locals := 0 } : Room).slots) := by
  refine MetFree.of_bodySF (plainFor_of_name pn_2) hisR ?_
  intro p e s m args below meth c s₁ Bd hml0 hP hK
  obtain ⟨rfl, hZ, hh⟩ := hP
  have hx := Bd.exec
  have hby := Bd.bytes
  have hml : c.maxLocals = 3 := hml0
  have hown : s.vm.findClass "com/example/lachesis/lachesis/core/solver/BlockEquations" = some m.cls := findClass_of_methodNamed Bd.named
  have hnm := (name_of_methodNamed Bd.named Bd.method).1
  have X0 : Stand p l e ({ frames := 0, cells := 0, slots := 0, locals := 0 } : Room) s m #[(.ref a)] below meth c s₁ [] 0 0 := Stand.of_body Bd
  have e0 : s₁.heap = h0 := by rw [← hh, Bd.state]; rfl
  have N0 := Fr.nil n0
  show own_Ends p.tables e below (own_P s (Q_rmF33 Z a ka x0 x1 x2 h0 n0) ({ frames := 0, cells := 0, slots := 0, locals := 0 } : Room).cells ({ frames := 0, cells := 0, slots := 0, locals := 0 } : Room).slots) _
  refine own_cast (ef_rmF33 m a) ?_
  show own_Ends _ _ _ _ (s₁.setTop (mkF m 0 #[.val (.ref a), .unset, .unset] []))
  refine own_to (fun _ kont => XS.iconst X0.here hx rfl (hb hby d2_0) kont) ?_
  show own_Ends _ _ _ _ (s₁.setTop (mkF m 1 #[.val (.ref a), .unset, .unset] [(.int 1)]))
  refine own_to (fun _ kont => XS.istoreN X0.here hx rfl (hb hby d2_1) rfl (l' := #[.val (.ref a), .val (.int (1 : Int32)), .unset]) rfl kont) ?_
  show own_Ends _ _ _ _ (s₁.setTop (mkF m 2 #[.val (.ref a), .val (.int 1), .unset] []))
  refine own_to (fun _ kont => XS.iconst X0.here hx rfl (hb hby d2_2) kont) ?_
  show own_Ends _ _ _ _ (s₁.setTop (mkF m 3 #[.val (.ref a), .val (.int 1), .unset] [(.int 0)]))
  refine own_to (fun _ kont => XS.istoreN X0.here hx rfl (hb hby d2_3) rfl (l' := #[.val (.ref a), .val (.int (1 : Int32)), .val (.int (0 : Int32))]) rfl kont) ?_
  show own_Ends _ _ _ _ (s₁.setTop (mkF m 4 #[.val (.ref a), .val (.int 1), .val (.int 0)] []))
  refine own_to (fun _ kont => XS.iloadN X0.here hx rfl (hb hby d2_4) rfl kont) ?_
  show own_Ends _ _ _ _ (s₁.setTop (mkF m 5 #[.val (.ref a), .val (.int 1), .val (.int 0)] [(.int 0)]))
  refine own_to (fun _ kont => XS.aloadN X0.here hx rfl (hb hby d2_5) rfl rfl kont) ?_
  show own_Ends _ _ _ _ (s₁.setTop (mkF m 6 #[.val (.ref a), .val (.int 1), .val (.int 0)] [(.ref a), (.int 0)]))
  obtain ⟨cl1, Ar1, q1, S1, M1, -, -⟩ := id V_a
  refine own_to (fun _ kont => X0.arraylength hx (by rw [e0]; exact Ar1.1) (State.isArrayOf_alike hZ.alike Ar1.2.1) (g := (mkF m 6 #[.val (.ref a), .val (.int (1 : Int32)), .val (.int (0 : Int32))] [(.ref a), (.int (0 : Int32))])) rfl rfl (hb hby d2_6) _ kont) ?_
  rw [len_of S1 M1]
  show own_Ends _ _ _ _ (s₁.setTop (mkF m 7 #[.val (.ref a), .val (.int 1), .val (.int 0)] [(.int 3), (.int 0)]))
  refine own_to (fun _ kont => XS.icmpNo X0.here hx rfl (hb hby d2_7) rfl (tlt (by decide)).2.1 kont) ?_
  show own_Ends _ _ _ _ (s₁.setTop (mkF m 10 #[.val (.ref a), .val (.int 1), .val (.int 0)] []))
  refine own_to (fun _ kont => XS.iloadN X0.here hx rfl (hb hby d2_10) rfl kont) ?_
  show own_Ends _ _ _ _ (s₁.setTop (mkF m 11 #[.val (.ref a), .val (.int 1), .val (.int 0)] [(.int 1)]))
  refine own_to (fun _ kont => XS.ifNo X0.here hx rfl (hb hby d2_11) rfl ((if0 _ _).trans (feq (by decide)).1) kont) ?_
  show own_Ends _ _ _ _ (s₁.setTop (mkF m 14 #[.val (.ref a), .val (.int 1), .val (.int 0)] []))
  refine own_to (fun _ kont => XS.aloadN X0.here hx rfl (hb hby d2_14) rfl rfl kont) ?_
  show own_Ends _ _ _ _ (s₁.setTop (mkF m 15 #[.val (.ref a), .val (.int 1), .val (.int 0)] [(.ref a)]))
  refine own_to (fun _ kont => XS.iloadN X0.here hx rfl (hb hby d2_15) rfl kont) ?_
  show own_Ends _ _ _ _ (s₁.setTop (mkF m 16 #[.val (.ref a), .val (.int 1), .val (.int 0)] [(.int 0), (.ref a)]))
  obtain ⟨cl2, Ar2, q2, S2, M2, H2, G2⟩ := id V_a
  have hin2 : ¬ ((0 : Int32) < 0 ∨ cl2.slots.size ≤ ((0 : Int32)).toNatClampNeg) := inb_of S2 ⟨by decide, by decide⟩
  have hat2 : cl2.slots[((0 : Int32)).toNatClampNeg]? = some (.double x0) := Has.at H2 hin2 rfl
  refine own_to (fun _ kont => X0.daload hx (j := (0 : Int32)) (v := (.double x0)) (by rw [e0]; exact Ar2.1) (State.isArrayOf_alike hZ.alike Ar2.2.1) Ar2.2.2 hin2 hat2 (g := (mkF m 16 #[.val (.ref a), .val (.int (1 : Int32)), .val (.int (0 : Int32))] [(.int (0 : Int32)), (.ref a)])) rfl rfl (hb hby d2_16) _ kont) ?_
  show own_Ends _ _ _ _ (s₁.setTop (mkF m 17 #[.val (.ref a), .val (.int 1), .val (.int 0)] [(.double x0)]))
  refine own_to (X0.ldc2DoubleC hx hown (mvT hZ (ow11 hw)) (g := (mkF m 17 #[.val (.ref a), .val (.int (1 : Int32)), .val (.int (0 : Int32))] [(.double x0)])) rfl (hb hby d2_17)) ?_
  show own_Ends _ _ _ _ (s₁.setTop (mkF m 20 #[.val (.ref a), .val (.int 1), .val (.int 0)] [(.double (9218868437227405312 : UInt64)), (.double x0)]))
  refine own_to (fun _ kont => XS.dcmpS X0.here hx rfl (v := (-1 : Int32)) (hb hby d2_20) rfl (dcmp_pinf hx0 .g) kont) ?_
  show own_Ends _ _ _ _ (s₁.setTop (mkF m 21 #[.val (.ref a), .val (.int 1), .val (.int 0)] [(.int (-1 : Int32))]))
  refine own_to (fun _ kont => XS.ifNo X0.here hx rfl (hb hby d2_21) rfl ((if0 _ _).trans (tlt (by decide)).2.1) kont) ?_
  show own_Ends _ _ _ _ (s₁.setTop (mkF m 24 #[.val (.ref a), .val (.int 1), .val (.int 0)] []))
  refine own_to (fun _ kont => XS.iconst X0.here hx rfl (hb hby d2_24) kont) ?_
  show own_Ends _ _ _ _ (s₁.setTop (mkF m 25 #[.val (.ref a), .val (.int 1), .val (.int 0)] [(.int 1)]))
  refine own_to (fun _ kont => XS.goto X0.here hx rfl (pc0 := 25) (pc' := 29) rfl (hb hby d2_25) (by decide) (by decide) kont) ?_
  show own_Ends _ _ _ _ (s₁.setTop (mkF m 29 #[.val (.ref a), .val (.int 1), .val (.int 0)] [(.int 1)]))
  refine own_to (fun _ kont => XS.istoreN X0.here hx rfl (hb hby d2_29) rfl (l' := #[.val (.ref a), .val (.int (1 : Int32)), .val (.int (0 : Int32))]) rfl kont) ?_
  show own_Ends _ _ _ _ (s₁.setTop (mkF m 30 #[.val (.ref a), .val (.int 1), .val (.int 0)] []))
  refine own_to (fun _ kont => XS.iinc X0.here hx rfl (hb hby d2_30) rfl (l' := #[.val (.ref a), .val (.int (1 : Int32)), .val (.int (1 : Int32))]) rfl kont) ?_
  show own_Ends _ _ _ _ (s₁.setTop (mkF m 33 #[.val (.ref a), .val (.int 1), .val (.int 1)] []))
  refine own_to (fun _ kont => XS.goto X0.here hx rfl (pc0 := 33) (pc' := 4) rfl (hb hby d2_33) (by decide) (by decide) kont) ?_
  show own_Ends _ _ _ _ (s₁.setTop (mkF m 4 #[.val (.ref a), .val (.int 1), .val (.int 1)] []))
  refine own_to (fun _ kont => XS.iloadN X0.here hx rfl (hb hby d2_4) rfl kont) ?_
  show own_Ends _ _ _ _ (s₁.setTop (mkF m 5 #[.val (.ref a), .val (.int 1), .val (.int 1)] [(.int 1)]))
  refine own_to (fun _ kont => XS.aloadN X0.here hx rfl (hb hby d2_5) rfl rfl kont) ?_
  show own_Ends _ _ _ _ (s₁.setTop (mkF m 6 #[.val (.ref a), .val (.int 1), .val (.int 1)] [(.ref a), (.int 1)]))
  obtain ⟨cl3, Ar3, q3, S3, M3, -, -⟩ := id V_a
  refine own_to (fun _ kont => X0.arraylength hx (by rw [e0]; exact Ar3.1) (State.isArrayOf_alike hZ.alike Ar3.2.1) (g := (mkF m 6 #[.val (.ref a), .val (.int (1 : Int32)), .val (.int (1 : Int32))] [(.ref a), (.int (1 : Int32))])) rfl rfl (hb hby d2_6) _ kont) ?_
  rw [len_of S3 M3]
  show own_Ends _ _ _ _ (s₁.setTop (mkF m 7 #[.val (.ref a), .val (.int 1), .val (.int 1)] [(.int 3), (.int 1)]))
  refine own_to (fun _ kont => XS.icmpNo X0.here hx rfl (hb hby d2_7) rfl (tlt (by decide)).2.1 kont) ?_
  show own_Ends _ _ _ _ (s₁.setTop (mkF m 10 #[.val (.ref a), .val (.int 1), .val (.int 1)] []))
  refine own_to (fun _ kont => XS.iloadN X0.here hx rfl (hb hby d2_10) rfl kont) ?_
  show own_Ends _ _ _ _ (s₁.setTop (mkF m 11 #[.val (.ref a), .val (.int 1), .val (.int 1)] [(.int 1)]))
  refine own_to (fun _ kont => XS.ifNo X0.here hx rfl (hb hby d2_11) rfl ((if0 _ _).trans (feq (by decide)).1) kont) ?_
  show own_Ends _ _ _ _ (s₁.setTop (mkF m 14 #[.val (.ref a), .val (.int 1), .val (.int 1)] []))
  refine own_to (fun _ kont => XS.aloadN X0.here hx rfl (hb hby d2_14) rfl rfl kont) ?_
  show own_Ends _ _ _ _ (s₁.setTop (mkF m 15 #[.val (.ref a), .val (.int 1), .val (.int 1)] [(.ref a)]))
  refine own_to (fun _ kont => XS.iloadN X0.here hx rfl (hb hby d2_15) rfl kont) ?_
  show own_Ends _ _ _ _ (s₁.setTop (mkF m 16 #[.val (.ref a), .val (.int 1), .val (.int 1)] [(.int 1), (.ref a)]))
  obtain ⟨cl4, Ar4, q4, S4, M4, H4, G4⟩ := id V_a
  have hin4 : ¬ ((1 : Int32) < 0 ∨ cl4.slots.size ≤ ((1 : Int32)).toNatClampNeg) := inb_of S4 ⟨by decide, by decide⟩
  have hat4 : cl4.slots[((1 : Int32)).toNatClampNeg]? = some (.double x1) := Has.at H4 hin4 rfl
  refine own_to (fun _ kont => X0.daload hx (j := (1 : Int32)) (v := (.double x1)) (by rw [e0]; exact Ar4.1) (State.isArrayOf_alike hZ.alike Ar4.2.1) Ar4.2.2 hin4 hat4 (g := (mkF m 16 #[.val (.ref a), .val (.int (1 : Int32)), .val (.int (1 : Int32))] [(.int (1 : Int32)), (.ref a)])) rfl rfl (hb hby d2_16) _ kont) ?_
  show own_Ends _ _ _ _ (s₁.setTop (mkF m 17 #[.val (.ref a), .val (.int 1), .val (.int 1)] [(.double x1)]))
  refine own_to (X0.ldc2DoubleC hx hown (mvT hZ (ow11 hw)) (g := (mkF m 17 #[.val (.ref a), .val (.int (1 : Int32)), .val (.int (1 : Int32))] [(.double x1)])) rfl (hb hby d2_17)) ?_
  show own_Ends _ _ _ _ (s₁.setTop (mkF m 20 #[.val (.ref a), .val (.int 1), .val (.int 1)] [(.double (9218868437227405312 : UInt64)), (.double x1)]))
  refine own_to (fun _ kont => XS.dcmpS X0.here hx rfl (v := (-1 : Int32)) (hb hby d2_20) rfl (dcmp_pinf hx1 .g) kont) ?_
  show own_Ends _ _ _ _ (s₁.setTop (mkF m 21 #[.val (.ref a), .val (.int 1), .val (.int 1)] [(.int (-1 : Int32))]))
  refine own_to (fun _ kont => XS.ifNo X0.here hx rfl (hb hby d2_21) rfl ((if0 _ _).trans (tlt (by decide)).2.1) kont) ?_
  show own_Ends _ _ _ _ (s₁.setTop (mkF m 24 #[.val (.ref a), .val (.int 1), .val (.int 1)] []))
  refine own_to (fun _ kont => XS.iconst X0.here hx rfl (hb hby d2_24) kont) ?_
  show own_Ends _ _ _ _ (s₁.setTop (mkF m 25 #[.val (.ref a), .val (.int 1), .val (.int 1)] [(.int 1)]))
  refine own_to (fun _ kont => XS.goto X0.here hx rfl (pc0 := 25) (pc' := 29) rfl (hb hby d2_25) (by decide) (by decide) kont) ?_
  show own_Ends _ _ _ _ (s₁.setTop (mkF m 29 #[.val (.ref a), .val (.int 1), .val (.int 1)] [(.int 1)]))
  refine own_to (fun _ kont => XS.istoreN X0.here hx rfl (hb hby d2_29) rfl (l' := #[.val (.ref a), .val (.int (1 : Int32)), .val (.int (1 : Int32))]) rfl kont) ?_
  show own_Ends _ _ _ _ (s₁.setTop (mkF m 30 #[.val (.ref a), .val (.int 1), .val (.int 1)] []))
  refine own_to (fun _ kont => XS.iinc X0.here hx rfl (hb hby d2_30) rfl (l' := #[.val (.ref a), .val (.int (1 : Int32)), .val (.int (2 : Int32))]) rfl kont) ?_
  show own_Ends _ _ _ _ (s₁.setTop (mkF m 33 #[.val (.ref a), .val (.int 1), .val (.int 2)] []))
  refine own_to (fun _ kont => XS.goto X0.here hx rfl (pc0 := 33) (pc' := 4) rfl (hb hby d2_33) (by decide) (by decide) kont) ?_
  show own_Ends _ _ _ _ (s₁.setTop (mkF m 4 #[.val (.ref a), .val (.int 1), .val (.int 2)] []))
  refine own_to (fun _ kont => XS.iloadN X0.here hx rfl (hb hby d2_4) rfl kont) ?_
  show own_Ends _ _ _ _ (s₁.setTop (mkF m 5 #[.val (.ref a), .val (.int 1), .val (.int 2)] [(.int 2)]))
  refine own_to (fun _ kont => XS.aloadN X0.here hx rfl (hb hby d2_5) rfl rfl kont) ?_
  show own_Ends _ _ _ _ (s₁.setTop (mkF m 6 #[.val (.ref a), .val (.int 1), .val (.int 2)] [(.ref a), (.int 2)]))
  obtain ⟨cl5, Ar5, q5, S5, M5, -, -⟩ := id V_a
  refine own_to (fun _ kont => X0.arraylength hx (by rw [e0]; exact Ar5.1) (State.isArrayOf_alike hZ.alike Ar5.2.1) (g := (mkF m 6 #[.val (.ref a), .val (.int (1 : Int32)), .val (.int (2 : Int32))] [(.ref a), (.int (2 : Int32))])) rfl rfl (hb hby d2_6) _ kont) ?_
  rw [len_of S5 M5]
  show own_Ends _ _ _ _ (s₁.setTop (mkF m 7 #[.val (.ref a), .val (.int 1), .val (.int 2)] [(.int 3), (.int 2)]))
  refine own_to (fun _ kont => XS.icmpNo X0.here hx rfl (hb hby d2_7) rfl (tlt (by decide)).2.1 kont) ?_
  show own_Ends _ _ _ _ (s₁.setTop (mkF m 10 #[.val (.ref a), .val (.int 1), .val (.int 2)] []))
  refine own_to (fun _ kont => XS.iloadN X0.here hx rfl (hb hby d2_10) rfl kont) ?_
  show own_Ends _ _ _ _ (s₁.setTop (mkF m 11 #[.val (.ref a), .val (.int 1), .val (.int 2)] [(.int 1)]))
  refine own_to (fun _ kont => XS.ifNo X0.here hx rfl (hb hby d2_11) rfl ((if0 _ _).trans (feq (by decide)).1) kont) ?_
  show own_Ends _ _ _ _ (s₁.setTop (mkF m 14 #[.val (.ref a), .val (.int 1), .val (.int 2)] []))
  refine own_to (fun _ kont => XS.aloadN X0.here hx rfl (hb hby d2_14) rfl rfl kont) ?_
  show own_Ends _ _ _ _ (s₁.setTop (mkF m 15 #[.val (.ref a), .val (.int 1), .val (.int 2)] [(.ref a)]))
  refine own_to (fun _ kont => XS.iloadN X0.here hx rfl (hb hby d2_15) rfl kont) ?_
  show own_Ends _ _ _ _ (s₁.setTop (mkF m 16 #[.val (.ref a), .val (.int 1), .val (.int 2)] [(.int 2), (.ref a)]))
  obtain ⟨cl6, Ar6, q6, S6, M6, H6, G6⟩ := id V_a
  have hin6 : ¬ ((2 : Int32) < 0 ∨ cl6.slots.size ≤ ((2 : Int32)).toNatClampNeg) := inb_of S6 ⟨by decide, by decide⟩
  have hat6 : cl6.slots[((2 : Int32)).toNatClampNeg]? = some (.double x2) := Has.at H6 hin6 rfl
  refine own_to (fun _ kont => X0.daload hx (j := (2 : Int32)) (v := (.double x2)) (by rw [e0]; exact Ar6.1) (State.isArrayOf_alike hZ.alike Ar6.2.1) Ar6.2.2 hin6 hat6 (g := (mkF m 16 #[.val (.ref a), .val (.int (1 : Int32)), .val (.int (2 : Int32))] [(.int (2 : Int32)), (.ref a)])) rfl rfl (hb hby d2_16) _ kont) ?_
  show own_Ends _ _ _ _ (s₁.setTop (mkF m 17 #[.val (.ref a), .val (.int 1), .val (.int 2)] [(.double x2)]))
  refine own_to (X0.ldc2DoubleC hx hown (mvT hZ (ow11 hw)) (g := (mkF m 17 #[.val (.ref a), .val (.int (1 : Int32)), .val (.int (2 : Int32))] [(.double x2)])) rfl (hb hby d2_17)) ?_
  show own_Ends _ _ _ _ (s₁.setTop (mkF m 20 #[.val (.ref a), .val (.int 1), .val (.int 2)] [(.double (9218868437227405312 : UInt64)), (.double x2)]))
  refine own_to (fun _ kont => XS.dcmpS X0.here hx rfl (v := (-1 : Int32)) (hb hby d2_20) rfl (dcmp_pinf hx2 .g) kont) ?_
  show own_Ends _ _ _ _ (s₁.setTop (mkF m 21 #[.val (.ref a), .val (.int 1), .val (.int 2)] [(.int (-1 : Int32))]))
  refine own_to (fun _ kont => XS.ifNo X0.here hx rfl (hb hby d2_21) rfl ((if0 _ _).trans (tlt (by decide)).2.1) kont) ?_
  show own_Ends _ _ _ _ (s₁.setTop (mkF m 24 #[.val (.ref a), .val (.int 1), .val (.int 2)] []))
  refine own_to (fun _ kont => XS.iconst X0.here hx rfl (hb hby d2_24) kont) ?_
  show own_Ends _ _ _ _ (s₁.setTop (mkF m 25 #[.val (.ref a), .val (.int 1), .val (.int 2)] [(.int 1)]))
  refine own_to (fun _ kont => XS.goto X0.here hx rfl (pc0 := 25) (pc' := 29) rfl (hb hby d2_25) (by decide) (by decide) kont) ?_
  show own_Ends _ _ _ _ (s₁.setTop (mkF m 29 #[.val (.ref a), .val (.int 1), .val (.int 2)] [(.int 1)]))
  refine own_to (fun _ kont => XS.istoreN X0.here hx rfl (hb hby d2_29) rfl (l' := #[.val (.ref a), .val (.int (1 : Int32)), .val (.int (2 : Int32))]) rfl kont) ?_
  show own_Ends _ _ _ _ (s₁.setTop (mkF m 30 #[.val (.ref a), .val (.int 1), .val (.int 2)] []))
  refine own_to (fun _ kont => XS.iinc X0.here hx rfl (hb hby d2_30) rfl (l' := #[.val (.ref a), .val (.int (1 : Int32)), .val (.int (3 : Int32))]) rfl kont) ?_
  show own_Ends _ _ _ _ (s₁.setTop (mkF m 33 #[.val (.ref a), .val (.int 1), .val (.int 3)] []))
  refine own_to (fun _ kont => XS.goto X0.here hx rfl (pc0 := 33) (pc' := 4) rfl (hb hby d2_33) (by decide) (by decide) kont) ?_
  show own_Ends _ _ _ _ (s₁.setTop (mkF m 4 #[.val (.ref a), .val (.int 1), .val (.int 3)] []))
  refine own_to (fun _ kont => XS.iloadN X0.here hx rfl (hb hby d2_4) rfl kont) ?_
  show own_Ends _ _ _ _ (s₁.setTop (mkF m 5 #[.val (.ref a), .val (.int 1), .val (.int 3)] [(.int 3)]))
  refine own_to (fun _ kont => XS.aloadN X0.here hx rfl (hb hby d2_5) rfl rfl kont) ?_
  show own_Ends _ _ _ _ (s₁.setTop (mkF m 6 #[.val (.ref a), .val (.int 1), .val (.int 3)] [(.ref a), (.int 3)]))
  obtain ⟨cl7, Ar7, q7, S7, M7, -, -⟩ := id V_a
  refine own_to (fun _ kont => X0.arraylength hx (by rw [e0]; exact Ar7.1) (State.isArrayOf_alike hZ.alike Ar7.2.1) (g := (mkF m 6 #[.val (.ref a), .val (.int (1 : Int32)), .val (.int (3 : Int32))] [(.ref a), (.int (3 : Int32))])) rfl rfl (hb hby d2_6) _ kont) ?_
  rw [len_of S7 M7]
  show own_Ends _ _ _ _ (s₁.setTop (mkF m 7 #[.val (.ref a), .val (.int 1), .val (.int 3)] [(.int 3), (.int 3)]))
  refine own_to (fun _ kont => XS.icmpYes X0.here hx rfl (pc0 := 7) (pc' := 36) rfl (hb hby d2_7) rfl (flt (by decide)).2.1 (by decide) (by decide) kont) ?_
  show own_Ends _ _ _ _ (s₁.setTop (mkF m 36 #[.val (.ref a), .val (.int 1), .val (.int 3)] []))
  refine own_to (fun _ kont => XS.iloadN X0.here hx rfl (hb hby d2_36) rfl kont) ?_
  show own_Ends _ _ _ _ (s₁.setTop (mkF m 37 #[.val (.ref a), .val (.int 1), .val (.int 3)] [(.int 1)]))
  refine own_leave X0 (v := some (.int (1 : Int32))) (fun h => by rw [Bd.returns] at h; cases h) ?_ (by decide) (by decide) (fun fs hr => retN X0 hx (t := .boolean) Bd.returns (by simp) (hb hby d2_37) hr)
  show Q_rmF33 Z a ka x0 x1 x2 h0 n0 _ s₁.heap _
  rw [e0]
  exact ⟨rfl, N0, rfl⟩
theorem pn_0 : plainName "com/example/lachesis/lachesis/core/solver/BlockEquationsIsFinitePinLaw" = true := by first | (simp [plainName, overriddenIn]; done) | decide +kernel
theorem pd_0 : parseMethodDescriptor "(II)D" = some ⟨[.int, .int], some .double⟩ := by decide +kernel
theorem pd_1 : parseMethodDescriptor "([D)Z" = some ⟨[(.array .double)], some .boolean⟩ := by decide +kernel
theorem ef_rm0 (m : MethodId) (z1 : Int32) (z2 : Int32) (z3 : Int32) (z4 : Int32) : entryFrame m #[(.int z1), (.int z2), (.int z3), (.int z4)] maxLocals = mkF m 0 #[.val (.int z1), .val (.int z2), .val (.int z3), .val (.int z4), .unset, .unset, .unset, .unset, .unset, .unset, .unset, .unset, .unset, .unset, .unset, .unset] [] := by first | (simp [entryFrame, mkF, argsToLocals, Value.category, maxLocals]; done) | rfl | (rcases ref_cases hrf with rfl | ⟨q, rfl⟩ <;> rfl)
def Q_rm0 (Z : State) (z1 : Int32) (z2 : Int32) (z3 : Int32) (z4 : Int32)  (h0 : Heap) (n0 : Nat) (v : Option Value) (h : Heap) (L : List Loc) : Prop := v = some (.int 1) ∧ Fr n0 L
set_option maxRecDepth 65536 in
set_option maxHeartbeats 40000000 in
theorem rm0 (l : Launch) (Z : State) (a0 : Array Value) (hw : ∀ d ∈ tables_1, d.before a0 Z = true) (ws : List Jvm.Cond) (z1 : Int32) (z2 : Int32) (z3 : Int32) (z4 : Int32)  (h0 : Heap) (n0 : Nat) (O0 : Old Z n0 h0) :
    MetFree l x (head1 (Jvm.Cond.code x code maxLocals ret :: ws) room_1) (fun aq_ U => aq_ = #[(.int z1), (.int z2), (.int z3), (.int z4)] ∧ Z.Warmed39 U.vm ∧ U.heap = h0) (fun _ _ _ _ _ => True) (fun _ U o U' => ∃ v L, o = .returned v ∧ Q_rm0 Z z1 z2 z3 z4 h0 n0 v U'.heap L ∧ FrameEnd U o U' L 16 128) := by
  refine MetFree.of_bodySF (plainFor_of_name pn_0) hisR ?_
  intro p e s m args below meth c s₁ Bd hml0 hP hK
  obtain ⟨rfl, hZ, hh⟩ := hP
  have hx := Bd.exec
  have hby := Bd.bytes
  have hml : c.maxLocals = 16 := hml0
  have hown : s.vm.findClass "com/example/lachesis/lachesis/core/solver/BlockEquationsIsFinitePinLaw" = some m.cls := findClass_of_methodNamed Bd.named
  have hnm := (name_of_methodNamed Bd.named Bd.method).1
  have X0 : Stand p l e room_1 s m #[(.int z1), (.int z2), (.int z3), (.int z4)] below meth c s₁ [] 0 0 := Stand.of_body Bd
  have e0 : s₁.heap = h0 := by rw [← hh, Bd.state]; rfl
  have N0 := Fr.nil n0
  show own_Ends p.tables e below (own_P s (Q_rm0 Z z1 z2 z3 z4 h0 n0) 16 128) _
  refine own_cast (ef_rm0 m z1 z2 z3 z4) ?_
  show own_Ends _ _ _ _ (s₁.setTop (mkF m 0 #[.val (.int z1), .val (.int z2), .val (.int z3), .val (.int z4), .unset, .unset, .unset, .unset, .unset, .unset, .unset, .unset, .unset, .unset, .unset, .unset] []))
  refine own_to (fun _ kont => XS.iloadN X0.here hx rfl (hb hby at_0) rfl kont) ?_
  show own_Ends _ _ _ _ (s₁.setTop (mkF m 1 #[.val (.int z1), .val (.int z2), .val (.int z3), .val (.int z4), .unset, .unset, .unset, .unset, .unset, .unset, .unset, .unset, .unset, .unset, .unset, .unset] [(.int z1)]))
  refine own_to (fun _ kont => XS.iconst X0.here hx rfl (hb hby at_1) kont) ?_
  show own_Ends _ _ _ _ (s₁.setTop (mkF m 2 #[.val (.int z1), .val (.int z2), .val (.int z3), .val (.int z4), .unset, .unset, .unset, .unset, .unset, .unset, .unset, .unset, .unset, .unset, .unset, .unset] [(.int 3), (.int z1)]))
  refine own_to (fun _ kont => XS.iand X0.here hx rfl (hb hby at_2) rfl kont) ?_
  show own_Ends _ _ _ _ (s₁.setTop (mkF m 3 #[.val (.int z1), .val (.int z2), .val (.int z3), .val (.int z4), .unset, .unset, .unset, .unset, .unset, .unset, .unset, .unset, .unset, .unset, .unset, .unset] [(.int (z1 &&& (3 : Int32)))]))
  refine own_to (fun _ kont => XS.istore X0.here hx rfl (hb hby at_3) rfl (l' := #[.val (.int z1), .val (.int z2), .val (.int z3), .val (.int z4), .val (.int (z1 &&& (3 : Int32))), .unset, .unset, .unset, .unset, .unset, .unset, .unset, .unset, .unset, .unset, .unset]) rfl kont) ?_
  show own_Ends _ _ _ _ (s₁.setTop (mkF m 5 #[.val (.int z1), .val (.int z2), .val (.int z3), .val (.int z4), .val (.int (z1 &&& (3 : Int32))), .unset, .unset, .unset, .unset, .unset, .unset, .unset, .unset, .unset, .unset, .unset] []))
  refine own_to (fun _ kont => XS.iloadN X0.here hx rfl (hb hby at_5) rfl kont) ?_
  show own_Ends _ _ _ _ (s₁.setTop (mkF m 6 #[.val (.int z1), .val (.int z2), .val (.int z3), .val (.int z4), .val (.int (z1 &&& (3 : Int32))), .unset, .unset, .unset, .unset, .unset, .unset, .unset, .unset, .unset, .unset, .unset] [(.int z1)]))
  refine own_to (fun _ kont => XS.iconst X0.here hx rfl (hb hby at_6) kont) ?_
  show own_Ends _ _ _ _ (s₁.setTop (mkF m 7 #[.val (.int z1), .val (.int z2), .val (.int z3), .val (.int z4), .val (.int (z1 &&& (3 : Int32))), .unset, .unset, .unset, .unset, .unset, .unset, .unset, .unset, .unset, .unset, .unset] [(.int 2), (.int z1)]))
  refine own_to (fun _ kont => XS.iushr X0.here hx rfl (hb hby at_7) rfl kont) ?_
  show own_Ends _ _ _ _ (s₁.setTop (mkF m 8 #[.val (.int z1), .val (.int z2), .val (.int z3), .val (.int z4), .val (.int (z1 &&& (3 : Int32))), .unset, .unset, .unset, .unset, .unset, .unset, .unset, .unset, .unset, .unset, .unset] [(.int ((z1.toUInt32 >>> ((2 : Int32) &&& 31).toUInt32).toInt32))]))
  refine own_to (fun _ kont => XS.iconst X0.here hx rfl (hb hby at_8) kont) ?_
  show own_Ends _ _ _ _ (s₁.setTop (mkF m 9 #[.val (.int z1), .val (.int z2), .val (.int z3), .val (.int z4), .val (.int (z1 &&& (3 : Int32))), .unset, .unset, .unset, .unset, .unset, .unset, .unset, .unset, .unset, .unset, .unset] [(.int 3), (.int ((z1.toUInt32 >>> ((2 : Int32) &&& 31).toUInt32).toInt32))]))
  refine own_to (fun _ kont => XS.iand X0.here hx rfl (hb hby at_9) rfl kont) ?_
  show own_Ends _ _ _ _ (s₁.setTop (mkF m 10 #[.val (.int z1), .val (.int z2), .val (.int z3), .val (.int z4), .val (.int (z1 &&& (3 : Int32))), .unset, .unset, .unset, .unset, .unset, .unset, .unset, .unset, .unset, .unset, .unset] [(.int (((z1.toUInt32 >>> ((2 : Int32) &&& 31).toUInt32).toInt32) &&& (3 : Int32)))]))
  refine own_to (fun _ kont => XS.istore X0.here hx rfl (hb hby at_10) rfl (l' := #[.val (.int z1), .val (.int z2), .val (.int z3), .val (.int z4), .val (.int (z1 &&& (3 : Int32))), .val (.int (((z1.toUInt32 >>> ((2 : Int32) &&& 31).toUInt32).toInt32) &&& (3 : Int32))), .unset, .unset, .unset, .unset, .unset, .unset, .unset, .unset, .unset, .unset]) rfl kont) ?_
  show own_Ends _ _ _ _ (s₁.setTop (mkF m 12 #[.val (.int z1), .val (.int z2), .val (.int z3), .val (.int z4), .val (.int (z1 &&& (3 : Int32))), .val (.int (((z1.toUInt32 >>> ((2 : Int32) &&& 31).toUInt32).toInt32) &&& (3 : Int32))), .unset, .unset, .unset, .unset, .unset, .unset, .unset, .unset, .unset, .unset] []))
  refine own_to (fun _ kont => XS.iloadN X0.here hx rfl (hb hby at_12) rfl kont) ?_
  show own_Ends _ _ _ _ (s₁.setTop (mkF m 13 #[.val (.int z1), .val (.int z2), .val (.int z3), .val (.int z4), .val (.int (z1 &&& (3 : Int32))), .val (.int (((z1.toUInt32 >>> ((2 : Int32) &&& 31).toUInt32).toInt32) &&& (3 : Int32))), .unset, .unset, .unset, .unset, .unset, .unset, .unset, .unset, .unset, .unset] [(.int z1)]))
  refine own_to (fun _ kont => XS.iconst X0.here hx rfl (hb hby at_13) kont) ?_
  show own_Ends _ _ _ _ (s₁.setTop (mkF m 14 #[.val (.int z1), .val (.int z2), .val (.int z3), .val (.int z4), .val (.int (z1 &&& (3 : Int32))), .val (.int (((z1.toUInt32 >>> ((2 : Int32) &&& 31).toUInt32).toInt32) &&& (3 : Int32))), .unset, .unset, .unset, .unset, .unset, .unset, .unset, .unset, .unset, .unset] [(.int 4), (.int z1)]))
  refine own_to (fun _ kont => XS.iushr X0.here hx rfl (hb hby at_14) rfl kont) ?_
  show own_Ends _ _ _ _ (s₁.setTop (mkF m 15 #[.val (.int z1), .val (.int z2), .val (.int z3), .val (.int z4), .val (.int (z1 &&& (3 : Int32))), .val (.int (((z1.toUInt32 >>> ((2 : Int32) &&& 31).toUInt32).toInt32) &&& (3 : Int32))), .unset, .unset, .unset, .unset, .unset, .unset, .unset, .unset, .unset, .unset] [(.int ((z1.toUInt32 >>> ((4 : Int32) &&& 31).toUInt32).toInt32))]))
  refine own_to (fun _ kont => XS.iconst X0.here hx rfl (hb hby at_15) kont) ?_
  show own_Ends _ _ _ _ (s₁.setTop (mkF m 16 #[.val (.int z1), .val (.int z2), .val (.int z3), .val (.int z4), .val (.int (z1 &&& (3 : Int32))), .val (.int (((z1.toUInt32 >>> ((2 : Int32) &&& 31).toUInt32).toInt32) &&& (3 : Int32))), .unset, .unset, .unset, .unset, .unset, .unset, .unset, .unset, .unset, .unset] [(.int 3), (.int ((z1.toUInt32 >>> ((4 : Int32) &&& 31).toUInt32).toInt32))]))
  refine own_to (fun _ kont => XS.iand X0.here hx rfl (hb hby at_16) rfl kont) ?_
  show own_Ends _ _ _ _ (s₁.setTop (mkF m 17 #[.val (.int z1), .val (.int z2), .val (.int z3), .val (.int z4), .val (.int (z1 &&& (3 : Int32))), .val (.int (((z1.toUInt32 >>> ((2 : Int32) &&& 31).toUInt32).toInt32) &&& (3 : Int32))), .unset, .unset, .unset, .unset, .unset, .unset, .unset, .unset, .unset, .unset] [(.int (((z1.toUInt32 >>> ((4 : Int32) &&& 31).toUInt32).toInt32) &&& (3 : Int32)))]))
  refine own_to (fun _ kont => XS.istore X0.here hx rfl (hb hby at_17) rfl (l' := #[.val (.int z1), .val (.int z2), .val (.int z3), .val (.int z4), .val (.int (z1 &&& (3 : Int32))), .val (.int (((z1.toUInt32 >>> ((2 : Int32) &&& 31).toUInt32).toInt32) &&& (3 : Int32))), .val (.int (((z1.toUInt32 >>> ((4 : Int32) &&& 31).toUInt32).toInt32) &&& (3 : Int32))), .unset, .unset, .unset, .unset, .unset, .unset, .unset, .unset, .unset]) rfl kont) ?_
  show own_Ends _ _ _ _ (s₁.setTop (mkF m 19 #[.val (.int z1), .val (.int z2), .val (.int z3), .val (.int z4), .val (.int (z1 &&& (3 : Int32))), .val (.int (((z1.toUInt32 >>> ((2 : Int32) &&& 31).toUInt32).toInt32) &&& (3 : Int32))), .val (.int (((z1.toUInt32 >>> ((4 : Int32) &&& 31).toUInt32).toInt32) &&& (3 : Int32))), .unset, .unset, .unset, .unset, .unset, .unset, .unset, .unset, .unset] []))
  refine own_to (fun _ kont => XS.iloadN X0.here hx rfl (hb hby at_19) rfl kont) ?_
  show own_Ends _ _ _ _ (s₁.setTop (mkF m 20 #[.val (.int z1), .val (.int z2), .val (.int z3), .val (.int z4), .val (.int (z1 &&& (3 : Int32))), .val (.int (((z1.toUInt32 >>> ((2 : Int32) &&& 31).toUInt32).toInt32) &&& (3 : Int32))), .val (.int (((z1.toUInt32 >>> ((4 : Int32) &&& 31).toUInt32).toInt32) &&& (3 : Int32))), .unset, .unset, .unset, .unset, .unset, .unset, .unset, .unset, .unset] [(.int z1)]))
  refine own_to (fun _ kont => XS.bipush X0.here hx rfl (hb hby at_20) kont) ?_
  show own_Ends _ _ _ _ (s₁.setTop (mkF m 22 #[.val (.int z1), .val (.int z2), .val (.int z3), .val (.int z4), .val (.int (z1 &&& (3 : Int32))), .val (.int (((z1.toUInt32 >>> ((2 : Int32) &&& 31).toUInt32).toInt32) &&& (3 : Int32))), .val (.int (((z1.toUInt32 >>> ((4 : Int32) &&& 31).toUInt32).toInt32) &&& (3 : Int32))), .unset, .unset, .unset, .unset, .unset, .unset, .unset, .unset, .unset] [(.int 6), (.int z1)]))
  refine own_to (fun _ kont => XS.iushr X0.here hx rfl (hb hby at_22) rfl kont) ?_
  show own_Ends _ _ _ _ (s₁.setTop (mkF m 23 #[.val (.int z1), .val (.int z2), .val (.int z3), .val (.int z4), .val (.int (z1 &&& (3 : Int32))), .val (.int (((z1.toUInt32 >>> ((2 : Int32) &&& 31).toUInt32).toInt32) &&& (3 : Int32))), .val (.int (((z1.toUInt32 >>> ((4 : Int32) &&& 31).toUInt32).toInt32) &&& (3 : Int32))), .unset, .unset, .unset, .unset, .unset, .unset, .unset, .unset, .unset] [(.int ((z1.toUInt32 >>> ((6 : Int32) &&& 31).toUInt32).toInt32))]))
  refine own_to (fun _ kont => XS.iconst X0.here hx rfl (hb hby at_23) kont) ?_
  show own_Ends _ _ _ _ (s₁.setTop (mkF m 24 #[.val (.int z1), .val (.int z2), .val (.int z3), .val (.int z4), .val (.int (z1 &&& (3 : Int32))), .val (.int (((z1.toUInt32 >>> ((2 : Int32) &&& 31).toUInt32).toInt32) &&& (3 : Int32))), .val (.int (((z1.toUInt32 >>> ((4 : Int32) &&& 31).toUInt32).toInt32) &&& (3 : Int32))), .unset, .unset, .unset, .unset, .unset, .unset, .unset, .unset, .unset] [(.int 3), (.int ((z1.toUInt32 >>> ((6 : Int32) &&& 31).toUInt32).toInt32))]))
  refine own_to (fun _ kont => XS.iand X0.here hx rfl (hb hby at_24) rfl kont) ?_
  show own_Ends _ _ _ _ (s₁.setTop (mkF m 25 #[.val (.int z1), .val (.int z2), .val (.int z3), .val (.int z4), .val (.int (z1 &&& (3 : Int32))), .val (.int (((z1.toUInt32 >>> ((2 : Int32) &&& 31).toUInt32).toInt32) &&& (3 : Int32))), .val (.int (((z1.toUInt32 >>> ((4 : Int32) &&& 31).toUInt32).toInt32) &&& (3 : Int32))), .unset, .unset, .unset, .unset, .unset, .unset, .unset, .unset, .unset] [(.int (((z1.toUInt32 >>> ((6 : Int32) &&& 31).toUInt32).toInt32) &&& (3 : Int32)))]))
  refine own_to (fun _ kont => XS.istore X0.here hx rfl (hb hby at_25) rfl (l' := #[.val (.int z1), .val (.int z2), .val (.int z3), .val (.int z4), .val (.int (z1 &&& (3 : Int32))), .val (.int (((z1.toUInt32 >>> ((2 : Int32) &&& 31).toUInt32).toInt32) &&& (3 : Int32))), .val (.int (((z1.toUInt32 >>> ((4 : Int32) &&& 31).toUInt32).toInt32) &&& (3 : Int32))), .val (.int (((z1.toUInt32 >>> ((6 : Int32) &&& 31).toUInt32).toInt32) &&& (3 : Int32))), .unset, .unset, .unset, .unset, .unset, .unset, .unset, .unset]) rfl kont) ?_
  show own_Ends _ _ _ _ (s₁.setTop (mkF m 27 #[.val (.int z1), .val (.int z2), .val (.int z3), .val (.int z4), .val (.int (z1 &&& (3 : Int32))), .val (.int (((z1.toUInt32 >>> ((2 : Int32) &&& 31).toUInt32).toInt32) &&& (3 : Int32))), .val (.int (((z1.toUInt32 >>> ((4 : Int32) &&& 31).toUInt32).toInt32) &&& (3 : Int32))), .val (.int (((z1.toUInt32 >>> ((6 : Int32) &&& 31).toUInt32).toInt32) &&& (3 : Int32))), .unset, .unset, .unset, .unset, .unset, .unset, .unset, .unset] []))
  generalize (((z1.toUInt32 >>> ((2 : Int32) &&& 31).toUInt32).toInt32) &&& (3 : Int32)) = kA
  generalize (((z1.toUInt32 >>> ((4 : Int32) &&& 31).toUInt32).toInt32) &&& (3 : Int32)) = kB
  generalize (((z1.toUInt32 >>> ((6 : Int32) &&& 31).toUInt32).toInt32) &&& (3 : Int32)) = kC
  show own_Ends _ _ _ _ (s₁.setTop (mkF m 27 #[.val (.int z1), .val (.int z2), .val (.int z3), .val (.int z4), .val (.int (z1 &&& (3 : Int32))), .val (.int kA), .val (.int kB), .val (.int kC), .unset, .unset, .unset, .unset, .unset, .unset, .unset, .unset] []))
  refine own_to (fun _ kont => XS.iload X0.here hx rfl (hb hby at_27) rfl kont) ?_
  show own_Ends _ _ _ _ (s₁.setTop (mkF m 29 #[.val (.int z1), .val (.int z2), .val (.int z3), .val (.int z4), .val (.int (z1 &&& (3 : Int32))), .val (.int kA), .val (.int kB), .val (.int kC), .unset, .unset, .unset, .unset, .unset, .unset, .unset, .unset] [(.int kA)]))
  refine own_to (fun _ kont => XS.iloadN X0.here hx rfl (hb hby at_29) rfl kont) ?_
  show own_Ends _ _ _ _ (s₁.setTop (mkF m 30 #[.val (.int z1), .val (.int z2), .val (.int z3), .val (.int z4), .val (.int (z1 &&& (3 : Int32))), .val (.int kA), .val (.int kB), .val (.int kC), .unset, .unset, .unset, .unset, .unset, .unset, .unset, .unset] [(.int z2), (.int kA)]))
  obtain ⟨_, _, ⟨T1, L1, k1, n1⟩, -, X1, ⟨Lc1, hQ1, l1, y1, z1⟩, st1⟩ := Jvm.LawKit.callS X0 hx (y := oM0) hown (mvT hZ (ow0 hw)) (mvT hZ (ow1 hw)) (mvT hZ (ow2 hw)) (mvT hZ (ow3 hw)) (by decide) (backOf (W := 0) (rmE l Z a0 hw [] kA z2  h0 n0 O0 ) hZ (ow3 hw) (ow2 hw) (by decide) (by decide)) (g := (mkF m 30 #[.val (.int z1), .val (.int z2), .val (.int z3), .val (.int z4), .val (.int (z1 &&& (3 : Int32))), .val (.int kA), .val (.int kB), .val (.int kC), .unset, .unset, .unset, .unset, .unset, .unset, .unset, .unset] [(.int z2), (.int kA)])) rfl (by rw [hml]; rfl) (argsL := [(.int kA), (.int z2)]) (rest := []) (lenOf pd_0 rfl) rfl (by show 2 * 0 + _ ≤ _; exact Nat.le_of_eq rfl) (hb hby at_30) (fun _ _ => ⟨rfl, e0, (own_le rfl), (own_le rfl)⟩)
  dsimp only [Pt.U, Pt.locs, Pt.cells, Pt.slots] at X1 l1 y1 z1 st1 hQ1
  subst y1 z1
  obtain ⟨rfl, N1q, E1⟩ := hQ1
  have N1 := own_fr l1 N0 N1q
  refine own_to st1 ?_
  show own_Ends _ _ _ _ (T1.setTop (mkF m 33 #[.val (.int z1), .val (.int z2), .val (.int z3), .val (.int z4), .val (.int (z1 &&& (3 : Int32))), .val (.int kA), .val (.int kB), .val (.int kC), .unset, .unset, .unset, .unset, .unset, .unset, .unset, .unset] [(.double (own_el kA z2))]))
  refine own_to (fun _ kont => XS.dstore X1.here hx rfl (hb hby at_33) rfl (l' := #[.val (.int z1), .val (.int z2), .val (.int z3), .val (.int z4), .val (.int (z1 &&& (3 : Int32))), .val (.int kA), .val (.int kB), .val (.int kC), .val (.double (own_el kA z2)), .second, .unset, .unset, .unset, .unset, .unset, .unset]) rfl kont) ?_
  show own_Ends _ _ _ _ (T1.setTop (mkF m 35 #[.val (.int z1), .val (.int z2), .val (.int z3), .val (.int z4), .val (.int (z1 &&& (3 : Int32))), .val (.int kA), .val (.int kB), .val (.int kC), .val (.double (own_el kA z2)), .second, .unset, .unset, .unset, .unset, .unset, .unset] []))
  refine own_to (fun _ kont => XS.iload X1.here hx rfl (hb hby at_35) rfl kont) ?_
  show own_Ends _ _ _ _ (T1.setTop (mkF m 37 #[.val (.int z1), .val (.int z2), .val (.int z3), .val (.int z4), .val (.int (z1 &&& (3 : Int32))), .val (.int kA), .val (.int kB), .val (.int kC), .val (.double (own_el kA z2)), .second, .unset, .unset, .unset, .unset, .unset, .unset] [(.int kB)]))
  refine own_to (fun _ kont => XS.iloadN X1.here hx rfl (hb hby at_37) rfl kont) ?_
  show own_Ends _ _ _ _ (T1.setTop (mkF m 38 #[.val (.int z1), .val (.int z2), .val (.int z3), .val (.int z4), .val (.int (z1 &&& (3 : Int32))), .val (.int kA), .val (.int kB), .val (.int kC), .val (.double (own_el kA z2)), .second, .unset, .unset, .unset, .unset, .unset, .unset] [(.int z3), (.int kB)]))
  obtain ⟨_, _, ⟨T2, L2, k2, n2⟩, -, X2, ⟨Lc2, hQ2, l2, y2, z2⟩, st2⟩ := Jvm.LawKit.callS X1 hx (y := oM0) hown (mvT hZ (ow0 hw)) (mvT hZ (ow1 hw)) (mvT hZ (ow2 hw)) (mvT hZ (ow3 hw)) (by decide) (backOf (W := 0) (rmE l Z a0 hw [] kB z3  h0 n0 O0 ) hZ (ow3 hw) (ow2 hw) (by decide) (by decide)) (g := (mkF m 38 #[.val (.int z1), .val (.int z2), .val (.int z3), .val (.int z4), .val (.int (z1 &&& (3 : Int32))), .val (.int kA), .val (.int kB), .val (.int kC), .val (.double (own_el kA z2)), .second, .unset, .unset, .unset, .unset, .unset, .unset] [(.int z3), (.int kB)])) rfl (by rw [hml]; rfl) (argsL := [(.int kB), (.int z3)]) (rest := []) (lenOf pd_0 rfl) rfl (by show 2 * 0 + _ ≤ _; exact Nat.le_of_eq rfl) (hb hby at_38) (fun _ _ => ⟨rfl, E1, (own_le rfl), (own_le rfl)⟩)
  dsimp only [Pt.U, Pt.locs, Pt.cells, Pt.slots] at X2 l2 y2 z2 st2 hQ2
  subst y2 z2
  obtain ⟨rfl, N2q, E2⟩ := hQ2
  have N2 := own_fr l2 N1 N2q
  refine own_to st2 ?_
  show own_Ends _ _ _ _ (T2.setTop (mkF m 41 #[.val (.int z1), .val (.int z2), .val (.int z3), .val (.int z4), .val (.int (z1 &&& (3 : Int32))), .val (.int kA), .val (.int kB), .val (.int kC), .val (.double (own_el kA z2)), .second, .unset, .unset, .unset, .unset, .unset, .unset] [(.double (own_el kB z3))]))
  refine own_to (fun _ kont => XS.dstore X2.here hx rfl (hb hby at_41) rfl (l' := #[.val (.int z1), .val (.int z2), .val (.int z3), .val (.int z4), .val (.int (z1 &&& (3 : Int32))), .val (.int kA), .val (.int kB), .val (.int kC), .val (.double (own_el kA z2)), .second, .val (.double (own_el kB z3)), .second, .unset, .unset, .unset, .unset]) rfl kont) ?_
  show own_Ends _ _ _ _ (T2.setTop (mkF m 43 #[.val (.int z1), .val (.int z2), .val (.int z3), .val (.int z4), .val (.int (z1 &&& (3 : Int32))), .val (.int kA), .val (.int kB), .val (.int kC), .val (.double (own_el kA z2)), .second, .val (.double (own_el kB z3)), .second, .unset, .unset, .unset, .unset] []))
  refine own_to (fun _ kont => XS.iload X2.here hx rfl (hb hby at_43) rfl kont) ?_
  show own_Ends _ _ _ _ (T2.setTop (mkF m 45 #[.val (.int z1), .val (.int z2), .val (.int z3), .val (.int z4), .val (.int (z1 &&& (3 : Int32))), .val (.int kA), .val (.int kB), .val (.int kC), .val (.double (own_el kA z2)), .second, .val (.double (own_el kB z3)), .second, .unset, .unset, .unset, .unset] [(.int kC)]))
  refine own_to (fun _ kont => XS.iloadN X2.here hx rfl (hb hby at_45) rfl kont) ?_
  show own_Ends _ _ _ _ (T2.setTop (mkF m 46 #[.val (.int z1), .val (.int z2), .val (.int z3), .val (.int z4), .val (.int (z1 &&& (3 : Int32))), .val (.int kA), .val (.int kB), .val (.int kC), .val (.double (own_el kA z2)), .second, .val (.double (own_el kB z3)), .second, .unset, .unset, .unset, .unset] [(.int z4), (.int kC)]))
  obtain ⟨_, _, ⟨T3, L3, k3, n3⟩, -, X3, ⟨Lc3, hQ3, l3, y3, z3⟩, st3⟩ := Jvm.LawKit.callS X2 hx (y := oM0) hown (mvT hZ (ow0 hw)) (mvT hZ (ow1 hw)) (mvT hZ (ow2 hw)) (mvT hZ (ow3 hw)) (by decide) (backOf (W := 0) (rmE l Z a0 hw [] kC z4  h0 n0 O0 ) hZ (ow3 hw) (ow2 hw) (by decide) (by decide)) (g := (mkF m 46 #[.val (.int z1), .val (.int z2), .val (.int z3), .val (.int z4), .val (.int (z1 &&& (3 : Int32))), .val (.int kA), .val (.int kB), .val (.int kC), .val (.double (own_el kA z2)), .second, .val (.double (own_el kB z3)), .second, .unset, .unset, .unset, .unset] [(.int z4), (.int kC)])) rfl (by rw [hml]; rfl) (argsL := [(.int kC), (.int z4)]) (rest := []) (lenOf pd_0 rfl) rfl (by show 2 * 0 + _ ≤ _; exact Nat.le_of_eq rfl) (hb hby at_46) (fun _ _ => ⟨rfl, E2, (own_le rfl), (own_le rfl)⟩)
  dsimp only [Pt.U, Pt.locs, Pt.cells, Pt.slots] at X3 l3 y3 z3 st3 hQ3
  subst y3 z3
  obtain ⟨rfl, N3q, E3⟩ := hQ3
  have N3 := own_fr l3 N2 N3q
  refine own_to st3 ?_
  show own_Ends _ _ _ _ (T3.setTop (mkF m 49 #[.val (.int z1), .val (.int z2), .val (.int z3), .val (.int z4), .val (.int (z1 &&& (3 : Int32))), .val (.int kA), .val (.int kB), .val (.int kC), .val (.double (own_el kA z2)), .second, .val (.double (own_el kB z3)), .second, .unset, .unset, .unset, .unset] [(.double (own_el kC z4))]))
  refine own_to (fun _ kont => XS.dstore X3.here hx rfl (hb hby at_49) rfl (l' := #[.val (.int z1), .val (.int z2), .val (.int z3), .val (.int z4), .val (.int (z1 &&& (3 : Int32))), .val (.int kA), .val (.int kB), .val (.int kC), .val (.double (own_el kA z2)), .second, .val (.double (own_el kB z3)), .second, .val (.double (own_el kC z4)), .second, .unset, .unset]) rfl kont) ?_
  show own_Ends _ _ _ _ (T3.setTop (mkF m 51 #[.val (.int z1), .val (.int z2), .val (.int z3), .val (.int z4), .val (.int (z1 &&& (3 : Int32))), .val (.int kA), .val (.int kB), .val (.int kC), .val (.double (own_el kA z2)), .second, .val (.double (own_el kB z3)), .second, .val (.double (own_el kC z4)), .second, .unset, .unset] []))
  generalize hi4 : (z1 &&& (3 : Int32)) = i4
  rcases (hi4 ▸ own_and3 z1 : i4 = 0 ∨ i4 = 1 ∨ i4 = 2 ∨ i4 = 3) with rfl | rfl | rfl | rfl
  · skip
    show own_Ends _ _ _ _ (T3.setTop (mkF m 51 #[.val (.int z1), .val (.int z2), .val (.int z3), .val (.int z4), .val (.int 0), .val (.int kA), .val (.int kB), .val (.int kC), .val (.double (own_el kA z2)), .second, .val (.double (own_el kB z3)), .second, .val (.double (own_el kC z4)), .second, .unset, .unset] []))
    refine own_to (fun _ kont => XS.iload X3.here hx rfl (hb hby at_51) rfl kont) ?_
    show own_Ends _ _ _ _ (T3.setTop (mkF m 53 #[.val (.int z1), .val (.int z2), .val (.int z3), .val (.int z4), .val (.int 0), .val (.int kA), .val (.int kB), .val (.int kC), .val (.double (own_el kA z2)), .second, .val (.double (own_el kB z3)), .second, .val (.double (own_el kC z4)), .second, .unset, .unset] [(.int 0)]))
    refine own_to (fun _ kont => XS.ifNo X3.here hx rfl (hb hby at_53) rfl ((if0 _ _).trans (teq (by decide)).2) kont) ?_
    show own_Ends _ _ _ _ (T3.setTop (mkF m 56 #[.val (.int z1), .val (.int z2), .val (.int z3), .val (.int z4), .val (.int 0), .val (.int kA), .val (.int kB), .val (.int kC), .val (.double (own_el kA z2)), .second, .val (.double (own_el kB z3)), .second, .val (.double (own_el kC z4)), .second, .unset, .unset] []))
    refine own_to (fun _ kont => XS.iconst X3.here hx rfl (hb hby at_56) kont) ?_
    show own_Ends _ _ _ _ (T3.setTop (mkF m 57 #[.val (.int z1), .val (.int z2), .val (.int z3), .val (.int z4), .val (.int 0), .val (.int kA), .val (.int kB), .val (.int kC), .val (.double (own_el kA z2)), .second, .val (.double (own_el kB z3)), .second, .val (.double (own_el kC z4)), .second, .unset, .unset] [(.int 0)]))
    obtain ⟨T5, h5, k5, X5, e5, E5, A5, st5⟩ := newP X3 hx hZ (aty := .double) (ow4 hw) E3 (g := (mkF m 57 #[.val (.int z1), .val (.int z2), .val (.int z3), .val (.int z4), .val (.int (0 : Int32)), .val (.int kA), .val (.int kB), .val (.int kC), .val (.double (own_el kA z2)), .second, .val (.double (own_el kB z3)), .second, .val (.double (own_el kC z4)), .second, .unset, .unset] [(.int (0 : Int32))])) rfl (hb hby at_57) rfl (by decide) (cap := 0) (by decide) (by decide) (by decide) (by decide)
    obtain ⟨b5, g5⟩ : ∃ z, z = h0.size := ⟨_, rfl⟩
    rw [← g5] at A5 st5
    have g_b5 : n0 ≤ b5 := Nat.le_trans (own_old_le O0) (Nat.le_of_eq g5.symm)
    refine own_to st5 ?_
    have O5 := O0.ext E5
    have Vn5 : Arv Z h5 b5 k5 .double (0 : Int32) [] (.double (FP.l2d 0)) := (Arv.newD A5 (by decide)).pad (pad_rep [] (.double (FP.l2d 0)) 0)
    show own_Ends _ _ _ _ (T5.setTop (mkF m 59 #[.val (.int z1), .val (.int z2), .val (.int z3), .val (.int z4), .val (.int 0), .val (.int kA), .val (.int kB), .val (.int kC), .val (.double (own_el kA z2)), .second, .val (.double (own_el kB z3)), .second, .val (.double (own_el kC z4)), .second, .unset, .unset] [(.ref b5)]))
    refine own_to (fun _ kont => XS.astore X5.here hx rfl (hb hby at_59) rfl rfl (l' := #[.val (.int z1), .val (.int z2), .val (.int z3), .val (.int z4), .val (.int (0 : Int32)), .val (.int kA), .val (.int kB), .val (.int kC), .val (.double (own_el kA z2)), .second, .val (.double (own_el kB z3)), .second, .val (.double (own_el kC z4)), .second, .val (.ref b5), .unset]) rfl kont) ?_
    show own_Ends _ _ _ _ (T5.setTop (mkF m 61 #[.val (.int z1), .val (.int z2), .val (.int z3), .val (.int z4), .val (.int 0), .val (.int kA), .val (.int kB), .val (.int kC), .val (.double (own_el kA z2)), .second, .val (.double (own_el kB z3)), .second, .val (.double (own_el kC z4)), .second, .val (.ref b5), .unset] []))
    refine own_to (fun _ kont => XS.goto X5.here hx rfl (pc0 := 61) (pc' := 127) rfl (hb hby at_61) (by decide) (by decide) kont) ?_
    show own_Ends _ _ _ _ (T5.setTop (mkF m 127 #[.val (.int z1), .val (.int z2), .val (.int z3), .val (.int z4), .val (.int 0), .val (.int kA), .val (.int kB), .val (.int kC), .val (.double (own_el kA z2)), .second, .val (.double (own_el kB z3)), .second, .val (.double (own_el kC z4)), .second, .val (.ref b5), .unset] []))
    refine own_to (fun _ kont => XS.iload X5.here hx rfl (hb hby at_127) rfl kont) ?_
    show own_Ends _ _ _ _ (T5.setTop (mkF m 129 #[.val (.int z1), .val (.int z2), .val (.int z3), .val (.int z4), .val (.int 0), .val (.int kA), .val (.int kB), .val (.int kC), .val (.double (own_el kA z2)), .second, .val (.double (own_el kB z3)), .second, .val (.double (own_el kC z4)), .second, .val (.ref b5), .unset] [(.int 0)]))
    refine own_to (fun _ kont => XS.iconst X5.here hx rfl (hb hby at_129) kont) ?_
    show own_Ends _ _ _ _ (T5.setTop (mkF m 130 #[.val (.int z1), .val (.int z2), .val (.int z3), .val (.int z4), .val (.int 0), .val (.int kA), .val (.int kB), .val (.int kC), .val (.double (own_el kA z2)), .second, .val (.double (own_el kB z3)), .second, .val (.double (own_el kC z4)), .second, .val (.ref b5), .unset] [(.int 1), (.int 0)]))
    refine own_to (fun _ kont => XS.icmpYes X5.here hx rfl (pc0 := 130) (pc' := 139) rfl (hb hby at_130) rfl (tlt (by decide)).1 (by decide) (by decide) kont) ?_
    show own_Ends _ _ _ _ (T5.setTop (mkF m 139 #[.val (.int z1), .val (.int z2), .val (.int z3), .val (.int z4), .val (.int 0), .val (.int kA), .val (.int kB), .val (.int kC), .val (.double (own_el kA z2)), .second, .val (.double (own_el kB z3)), .second, .val (.double (own_el kC z4)), .second, .val (.ref b5), .unset] []))
    refine own_to (fun _ kont => XS.iload X5.here hx rfl (hb hby at_139) rfl kont) ?_
    show own_Ends _ _ _ _ (T5.setTop (mkF m 141 #[.val (.int z1), .val (.int z2), .val (.int z3), .val (.int z4), .val (.int 0), .val (.int kA), .val (.int kB), .val (.int kC), .val (.double (own_el kA z2)), .second, .val (.double (own_el kB z3)), .second, .val (.double (own_el kC z4)), .second, .val (.ref b5), .unset] [(.int 0)]))
    refine own_to (fun _ kont => XS.iconst X5.here hx rfl (hb hby at_141) kont) ?_
    show own_Ends _ _ _ _ (T5.setTop (mkF m 142 #[.val (.int z1), .val (.int z2), .val (.int z3), .val (.int z4), .val (.int 0), .val (.int kA), .val (.int kB), .val (.int kC), .val (.double (own_el kA z2)), .second, .val (.double (own_el kB z3)), .second, .val (.double (own_el kC z4)), .second, .val (.ref b5), .unset] [(.int 2), (.int 0)]))
    refine own_to (fun _ kont => XS.icmpYes X5.here hx rfl (pc0 := 142) (pc' := 151) rfl (hb hby at_142) rfl (tlt (by decide)).1 (by decide) (by decide) kont) ?_
    show own_Ends _ _ _ _ (T5.setTop (mkF m 151 #[.val (.int z1), .val (.int z2), .val (.int z3), .val (.int z4), .val (.int 0), .val (.int kA), .val (.int kB), .val (.int kC), .val (.double (own_el kA z2)), .second, .val (.double (own_el kB z3)), .second, .val (.double (own_el kC z4)), .second, .val (.ref b5), .unset] []))
    refine own_to (fun _ kont => XS.iload X5.here hx rfl (hb hby at_151) rfl kont) ?_
    show own_Ends _ _ _ _ (T5.setTop (mkF m 153 #[.val (.int z1), .val (.int z2), .val (.int z3), .val (.int z4), .val (.int 0), .val (.int kA), .val (.int kB), .val (.int kC), .val (.double (own_el kA z2)), .second, .val (.double (own_el kB z3)), .second, .val (.double (own_el kC z4)), .second, .val (.ref b5), .unset] [(.int 0)]))
    refine own_to (fun _ kont => XS.iconst X5.here hx rfl (hb hby at_153) kont) ?_
    show own_Ends _ _ _ _ (T5.setTop (mkF m 154 #[.val (.int z1), .val (.int z2), .val (.int z3), .val (.int z4), .val (.int 0), .val (.int kA), .val (.int kB), .val (.int kC), .val (.double (own_el kA z2)), .second, .val (.double (own_el kB z3)), .second, .val (.double (own_el kC z4)), .second, .val (.ref b5), .unset] [(.int 3), (.int 0)]))
    refine own_to (fun _ kont => XS.icmpYes X5.here hx rfl (pc0 := 154) (pc' := 163) rfl (hb hby at_154) rfl (tlt (by decide)).1 (by decide) (by decide) kont) ?_
    show own_Ends _ _ _ _ (T5.setTop (mkF m 163 #[.val (.int z1), .val (.int z2), .val (.int z3), .val (.int z4), .val (.int 0), .val (.int kA), .val (.int kB), .val (.int kC), .val (.double (own_el kA z2)), .second, .val (.double (own_el kB z3)), .second, .val (.double (own_el kC z4)), .second, .val (.ref b5), .unset] []))
    refine own_to (fun _ kont => XS.iconst X5.here hx rfl (hb hby at_163) kont) ?_
    show own_Ends _ _ _ _ (T5.setTop (mkF m 164 #[.val (.int z1), .val (.int z2), .val (.int z3), .val (.int z4), .val (.int 0), .val (.int kA), .val (.int kB), .val (.int kC), .val (.double (own_el kA z2)), .second, .val (.double (own_el kB z3)), .second, .val (.double (own_el kC z4)), .second, .val (.ref b5), .unset] [(.int 1)]))
    refine own_to (fun _ kont => XS.goto X5.here hx rfl (pc0 := 164) (pc' := 168) rfl (hb hby at_164) (by decide) (by decide) kont) ?_
    show own_Ends _ _ _ _ (T5.setTop (mkF m 168 #[.val (.int z1), .val (.int z2), .val (.int z3), .val (.int z4), .val (.int 0), .val (.int kA), .val (.int kB), .val (.int kC), .val (.double (own_el kA z2)), .second, .val (.double (own_el kB z3)), .second, .val (.double (own_el kC z4)), .second, .val (.ref b5), .unset] [(.int 1)]))
    refine own_to (fun _ kont => XS.istore X5.here hx rfl (hb hby at_168) rfl (l' := #[.val (.int z1), .val (.int z2), .val (.int z3), .val (.int z4), .val (.int (0 : Int32)), .val (.int kA), .val (.int kB), .val (.int kC), .val (.double (own_el kA z2)), .second, .val (.double (own_el kB z3)), .second, .val (.double (own_el kC z4)), .second, .val (.ref b5), .val (.int (1 : Int32))]) rfl kont) ?_
    show own_Ends _ _ _ _ (T5.setTop (mkF m 170 #[.val (.int z1), .val (.int z2), .val (.int z3), .val (.int z4), .val (.int 0), .val (.int kA), .val (.int kB), .val (.int kC), .val (.double (own_el kA z2)), .second, .val (.double (own_el kB z3)), .second, .val (.double (own_el kC z4)), .second, .val (.ref b5), .val (.int 1)] []))
    refine own_to (fun _ kont => XS.aload X5.here hx rfl (hb hby at_170) rfl rfl kont) ?_
    show own_Ends _ _ _ _ (T5.setTop (mkF m 172 #[.val (.int z1), .val (.int z2), .val (.int z3), .val (.int z4), .val (.int 0), .val (.int kA), .val (.int kB), .val (.int kC), .val (.double (own_el kA z2)), .second, .val (.double (own_el kB z3)), .second, .val (.double (own_el kC z4)), .second, .val (.ref b5), .val (.int 1)] [(.ref b5)]))
    obtain ⟨_, _, ⟨T6, L6, k6, n6⟩, -, X6, ⟨Lc6, hQ6, l6, y6, z6⟩, st6⟩ := Jvm.LawKit.callS X5 hx (y := oM1) hown (mvT hZ (ow5 hw)) (mvT hZ (ow6 hw)) (mvT hZ (ow7 hw)) (mvT hZ (ow8 hw)) (by decide) (backOf (W := 0) (rmF00 l Z a0 hw [] b5 k5 h5 n0 O5 Vn5) hZ (ow8 hw) (ow7 hw) (by decide) (by decide)) (g := (mkF m 172 #[.val (.int z1), .val (.int z2), .val (.int z3), .val (.int z4), .val (.int (0 : Int32)), .val (.int kA), .val (.int kB), .val (.int kC), .val (.double (own_el kA z2)), .second, .val (.double (own_el kB z3)), .second, .val (.double (own_el kC z4)), .second, .val (.ref b5), .val (.int (1 : Int32))] [(.ref b5)])) rfl (by rw [hml]; rfl) (argsL := [(.ref b5)]) (rest := []) (lenOf pd_1 rfl) rfl (by show 2 * 0 + _ ≤ _; exact Nat.le_of_eq rfl) (hb hby at_172) (fun _ _ => ⟨rfl, e5, (own_le rfl), (own_le rfl)⟩)
    dsimp only [Pt.U, Pt.locs, Pt.cells, Pt.slots] at X6 l6 y6 z6 st6 hQ6
    subst y6 z6
    obtain ⟨rfl, N6q, E6⟩ := hQ6
    have N6 := own_fr l6 N3 N6q
    refine own_to st6 ?_
    show own_Ends _ _ _ _ (T6.setTop (mkF m 175 #[.val (.int z1), .val (.int z2), .val (.int z3), .val (.int z4), .val (.int 0), .val (.int kA), .val (.int kB), .val (.int kC), .val (.double (own_el kA z2)), .second, .val (.double (own_el kB z3)), .second, .val (.double (own_el kC z4)), .second, .val (.ref b5), .val (.int 1)] [(.int 1)]))
    refine own_to (fun _ kont => XS.iload X6.here hx rfl (hb hby at_175) rfl kont) ?_
    show own_Ends _ _ _ _ (T6.setTop (mkF m 177 #[.val (.int z1), .val (.int z2), .val (.int z3), .val (.int z4), .val (.int 0), .val (.int kA), .val (.int kB), .val (.int kC), .val (.double (own_el kA z2)), .second, .val (.double (own_el kB z3)), .second, .val (.double (own_el kC z4)), .second, .val (.ref b5), .val (.int 1)] [(.int 1), (.int 1)]))
    refine own_to (fun _ kont => XS.icmpNo X6.here hx rfl (hb hby at_177) rfl (teq (by decide)).2 kont) ?_
    show own_Ends _ _ _ _ (T6.setTop (mkF m 180 #[.val (.int z1), .val (.int z2), .val (.int z3), .val (.int z4), .val (.int 0), .val (.int kA), .val (.int kB), .val (.int kC), .val (.double (own_el kA z2)), .second, .val (.double (own_el kB z3)), .second, .val (.double (own_el kC z4)), .second, .val (.ref b5), .val (.int 1)] []))
    refine own_to (fun _ kont => XS.iconst X6.here hx rfl (hb hby at_180) kont) ?_
    show own_Ends _ _ _ _ (T6.setTop (mkF m 181 #[.val (.int z1), .val (.int z2), .val (.int z3), .val (.int z4), .val (.int 0), .val (.int kA), .val (.int kB), .val (.int kC), .val (.double (own_el kA z2)), .second, .val (.double (own_el kB z3)), .second, .val (.double (own_el kC z4)), .second, .val (.ref b5), .val (.int 1)] [(.int 1)]))
    refine own_to (fun _ kont => XS.goto X6.here hx rfl (pc0 := 181) (pc' := 185) rfl (hb hby at_181) (by decide) (by decide) kont) ?_
    show own_Ends _ _ _ _ (T6.setTop (mkF m 185 #[.val (.int z1), .val (.int z2), .val (.int z3), .val (.int z4), .val (.int 0), .val (.int kA), .val (.int kB), .val (.int kC), .val (.double (own_el kA z2)), .second, .val (.double (own_el kB z3)), .second, .val (.double (own_el kC z4)), .second, .val (.ref b5), .val (.int 1)] [(.int 1)]))
    refine own_leave X6 (v := some (.int (1 : Int32))) (fun h => by rw [Bd.returns] at h; cases h) ?_ (by decide) (by decide) (fun fs hr => retN X6 hx (t := .boolean) Bd.returns (by simp) (hb hby at_185) hr)
    show Q_rm0 Z z1 z2 z3 z4 h0 n0 _ T6.heap _
    rw [E6]
    exact ⟨rfl, N6⟩
  · skip
    show own_Ends _ _ _ _ (T3.setTop (mkF m 51 #[.val (.int z1), .val (.int z2), .val (.int z3), .val (.int z4), .val (.int 1), .val (.int kA), .val (.int kB), .val (.int kC), .val (.double (own_el kA z2)), .second, .val (.double (own_el kB z3)), .second, .val (.double (own_el kC z4)), .second, .unset, .unset] []))
    refine own_to (fun _ kont => XS.iload X3.here hx rfl (hb hby at_51) rfl kont) ?_
    show own_Ends _ _ _ _ (T3.setTop (mkF m 53 #[.val (.int z1), .val (.int z2), .val (.int z3), .val (.int z4), .val (.int 1), .val (.int kA), .val (.int kB), .val (.int kC), .val (.double (own_el kA z2)), .second, .val (.double (own_el kB z3)), .second, .val (.double (own_el kC z4)), .second, .unset, .unset] [(.int 1)]))
    refine own_to (fun _ kont => XS.ifYes X3.here hx rfl (pc0 := 53) (pc' := 64) rfl (hb hby at_53) rfl ((if0 _ _).trans (feq (by decide)).2) (by decide) (by decide) kont) ?_
    show own_Ends _ _ _ _ (T3.setTop (mkF m 64 #[.val (.int z1), .val (.int z2), .val (.int z3), .val (.int z4), .val (.int 1), .val (.int kA), .val (.int kB), .val (.int kC), .val (.double (own_el kA z2)), .second, .val (.double (own_el kB z3)), .second, .val (.double (own_el kC z4)), .second, .unset, .unset] []))
    refine own_to (fun _ kont => XS.iload X3.here hx rfl (hb hby at_64) rfl kont) ?_
    show own_Ends _ _ _ _ (T3.setTop (mkF m 66 #[.val (.int z1), .val (.int z2), .val (.int z3), .val (.int z4), .val (.int 1), .val (.int kA), .val (.int kB), .val (.int kC), .val (.double (own_el kA z2)), .second, .val (.double (own_el kB z3)), .second, .val (.double (own_el kC z4)), .second, .unset, .unset] [(.int 1)]))
    refine own_to (fun _ kont => XS.iconst X3.here hx rfl (hb hby at_66) kont) ?_
    show own_Ends _ _ _ _ (T3.setTop (mkF m 67 #[.val (.int z1), .val (.int z2), .val (.int z3), .val (.int z4), .val (.int 1), .val (.int kA), .val (.int kB), .val (.int kC), .val (.double (own_el kA z2)), .second, .val (.double (own_el kB z3)), .second, .val (.double (own_el kC z4)), .second, .unset, .unset] [(.int 1), (.int 1)]))
    refine own_to (fun _ kont => XS.icmpNo X3.here hx rfl (hb hby at_67) rfl (teq (by decide)).2 kont) ?_
    show own_Ends _ _ _ _ (T3.setTop (mkF m 70 #[.val (.int z1), .val (.int z2), .val (.int z3), .val (.int z4), .val (.int 1), .val (.int kA), .val (.int kB), .val (.int kC), .val (.double (own_el kA z2)), .second, .val (.double (own_el kB z3)), .second, .val (.double (own_el kC z4)), .second, .unset, .unset] []))
    refine own_to (fun _ kont => XS.iconst X3.here hx rfl (hb hby at_70) kont) ?_
    show own_Ends _ _ _ _ (T3.setTop (mkF m 71 #[.val (.int z1), .val (.int z2), .val (.int z3), .val (.int z4), .val (.int 1), .val (.int kA), .val (.int kB), .val (.int kC), .val (.double (own_el kA z2)), .second, .val (.double (own_el kB z3)), .second, .val (.double (own_el kC z4)), .second, .unset, .unset] [(.int 1)]))
    obtain ⟨T7, h7, k7, X7, e7, E7, A7, st7⟩ := newP X3 hx hZ (aty := .double) (ow4 hw) E3 (g := (mkF m 71 #[.val (.int z1), .val (.int z2), .val (.int z3), .val (.int z4), .val (.int (1 : Int32)), .val (.int kA), .val (.int kB), .val (.int kC), .val (.double (own_el kA z2)), .second, .val (.double (own_el kB z3)), .second, .val (.double (own_el kC z4)), .second, .unset, .unset] [(.int (1 : Int32))])) rfl (hb hby at_71) rfl (by decide) (cap := 1) (by decide) (by decide) (by decide) (by decide)
    obtain ⟨b7, g7⟩ : ∃ z, z = h0.size := ⟨_, rfl⟩
    rw [← g7] at A7 st7
    have g_b7 : n0 ≤ b7 := Nat.le_trans (own_old_le O0) (Nat.le_of_eq g7.symm)
    refine own_to st7 ?_
    have O7 := O0.ext E7
    have Vn7 : Arv Z h7 b7 k7 .double (1 : Int32) [(.double (FP.l2d 0))] (.double (FP.l2d 0)) := (Arv.newD A7 (by decide)).pad (pad_rep [] (.double (FP.l2d 0)) 1)
    show own_Ends _ _ _ _ (T7.setTop (mkF m 73 #[.val (.int z1), .val (.int z2), .val (.int z3), .val (.int z4), .val (.int 1), .val (.int kA), .val (.int kB), .val (.int kC), .val (.double (own_el kA z2)), .second, .val (.double (own_el kB z3)), .second, .val (.double (own_el kC z4)), .second, .unset, .unset] [(.ref b7)]))
    refine own_to (fun _ kont => XS.dup X7.here hx rfl (hb hby at_73) rfl rfl kont) ?_
    show own_Ends _ _ _ _ (T7.setTop (mkF m 74 #[.val (.int z1), .val (.int z2), .val (.int z3), .val (.int z4), .val (.int 1), .val (.int kA), .val (.int kB), .val (.int kC), .val (.double (own_el kA z2)), .second, .val (.double (own_el kB z3)), .second, .val (.double (own_el kC z4)), .second, .unset, .unset] [(.ref b7), (.ref b7)]))
    refine own_to (fun _ kont => XS.iconst X7.here hx rfl (hb hby at_74) kont) ?_
    show own_Ends _ _ _ _ (T7.setTop (mkF m 75 #[.val (.int z1), .val (.int z2), .val (.int z3), .val (.int z4), .val (.int 1), .val (.int kA), .val (.int kB), .val (.int kC), .val (.double (own_el kA z2)), .second, .val (.double (own_el kB z3)), .second, .val (.double (own_el kC z4)), .second, .unset, .unset] [(.int 0), (.ref b7), (.ref b7)]))
    refine own_to (fun _ kont => XS.dload X7.here hx rfl (hb hby at_75) rfl kont) ?_
    show own_Ends _ _ _ _ (T7.setTop (mkF m 77 #[.val (.int z1), .val (.int z2), .val (.int z3), .val (.int z4), .val (.int 1), .val (.int kA), .val (.int kB), .val (.int kC), .val (.double (own_el kA z2)), .second, .val (.double (own_el kB z3)), .second, .val (.double (own_el kC z4)), .second, .unset, .unset] [(.double (own_el kA z2)), (.int 0), (.ref b7), (.ref b7)]))
    obtain ⟨cl8, Ar8, q8, S8, M8, H8, G8⟩ := id Vn7
    have hin8 : ¬ ((0 : Int32) < 0 ∨ cl8.slots.size ≤ ((0 : Int32)).toNatClampNeg) := inb_of S8 ⟨by decide, by decide⟩
    obtain ⟨T8, h8, X8, e8, W8, st8⟩ := stD X7 hx hZ e7 Ar8 (j := (0 : Int32)) hin8 (g := (mkF m 77 #[.val (.int z1), .val (.int z2), .val (.int z3), .val (.int z4), .val (.int (1 : Int32)), .val (.int kA), .val (.int kB), .val (.int kC), .val (.double (own_el kA z2)), .second, .val (.double (own_el kB z3)), .second, .val (.double (own_el kC z4)), .second, .unset, .unset] [(.double (own_el kA z2)), (.int (0 : Int32)), (.ref b7), (.ref b7)])) rfl rfl (hb hby at_77)
    have Vs8 : Arv Z h8 b7 k7 .double (1 : Int32) [(.double (own_el kA z2))] (.double (FP.l2d 0)) := Arv.set Ar8 q8 S8 M8 H8 G8 rfl W8 0 rfl (own_lt rfl)
    refine own_to st8 ?_
    have O8 := O7.wr W8 g_b7
    have N8 := Fr.snoc X8 N3 g_b7
    show own_Ends _ _ _ _ (T8.setTop (mkF m 78 #[.val (.int z1), .val (.int z2), .val (.int z3), .val (.int z4), .val (.int 1), .val (.int kA), .val (.int kB), .val (.int kC), .val (.double (own_el kA z2)), .second, .val (.double (own_el kB z3)), .second, .val (.double (own_el kC z4)), .second, .unset, .unset] [(.ref b7)]))
    refine own_to (fun _ kont => XS.astore X8.here hx rfl (hb hby at_78) rfl rfl (l' := #[.val (.int z1), .val (.int z2), .val (.int z3), .val (.int z4), .val (.int (1 : Int32)), .val (.int kA), .val (.int kB), .val (.int kC), .val (.double (own_el kA z2)), .second, .val (.double (own_el kB z3)), .second, .val (.double (own_el kC z4)), .second, .val (.ref b7), .unset]) rfl kont) ?_
    show own_Ends _ _ _ _ (T8.setTop (mkF m 80 #[.val (.int z1), .val (.int z2), .val (.int z3), .val (.int z4), .val (.int 1), .val (.int kA), .val (.int kB), .val (.int kC), .val (.double (own_el kA z2)), .second, .val (.double (own_el kB z3)), .second, .val (.double (own_el kC z4)), .second, .val (.ref b7), .unset] []))
    refine own_to (fun _ kont => XS.goto X8.here hx rfl (pc0 := 80) (pc' := 127) rfl (hb hby at_80) (by decide) (by decide) kont) ?_
    show own_Ends _ _ _ _ (T8.setTop (mkF m 127 #[.val (.int z1), .val (.int z2), .val (.int z3), .val (.int z4), .val (.int 1), .val (.int kA), .val (.int kB), .val (.int kC), .val (.double (own_el kA z2)), .second, .val (.double (own_el kB z3)), .second, .val (.double (own_el kC z4)), .second, .val (.ref b7), .unset] []))
    refine own_to (fun _ kont => XS.iload X8.here hx rfl (hb hby at_127) rfl kont) ?_
    show own_Ends _ _ _ _ (T8.setTop (mkF m 129 #[.val (.int z1), .val (.int z2), .val (.int z3), .val (.int z4), .val (.int 1), .val (.int kA), .val (.int kB), .val (.int kC), .val (.double (own_el kA z2)), .second, .val (.double (own_el kB z3)), .second, .val (.double (own_el kC z4)), .second, .val (.ref b7), .unset] [(.int 1)]))
    refine own_to (fun _ kont => XS.iconst X8.here hx rfl (hb hby at_129) kont) ?_
    show own_Ends _ _ _ _ (T8.setTop (mkF m 130 #[.val (.int z1), .val (.int z2), .val (.int z3), .val (.int z4), .val (.int 1), .val (.int kA), .val (.int kB), .val (.int kC), .val (.double (own_el kA z2)), .second, .val (.double (own_el kB z3)), .second, .val (.double (own_el kC z4)), .second, .val (.ref b7), .unset] [(.int 1), (.int 1)]))
    refine own_to (fun _ kont => XS.icmpNo X8.here hx rfl (hb hby at_130) rfl (flt (by decide)).1 kont) ?_
    show own_Ends _ _ _ _ (T8.setTop (mkF m 133 #[.val (.int z1), .val (.int z2), .val (.int z3), .val (.int z4), .val (.int 1), .val (.int kA), .val (.int kB), .val (.int kC), .val (.double (own_el kA z2)), .second, .val (.double (own_el kB z3)), .second, .val (.double (own_el kC z4)), .second, .val (.ref b7), .unset] []))
    refine own_to (fun _ kont => XS.iload X8.here hx rfl (hb hby at_133) rfl kont) ?_
    show own_Ends _ _ _ _ (T8.setTop (mkF m 135 #[.val (.int z1), .val (.int z2), .val (.int z3), .val (.int z4), .val (.int 1), .val (.int kA), .val (.int kB), .val (.int kC), .val (.double (own_el kA z2)), .second, .val (.double (own_el kB z3)), .second, .val (.double (own_el kC z4)), .second, .val (.ref b7), .unset] [(.int kA)]))
    refine own_to (fun _ kont => XS.iconst X8.here hx rfl (hb hby at_135) kont) ?_
    show own_Ends _ _ _ _ (T8.setTop (mkF m 136 #[.val (.int z1), .val (.int z2), .val (.int z3), .val (.int z4), .val (.int 1), .val (.int kA), .val (.int kB), .val (.int kC), .val (.double (own_el kA z2)), .second, .val (.double (own_el kB z3)), .second, .val (.double (own_el kC z4)), .second, .val (.ref b7), .unset] [(.int 2), (.int kA)]))
    by_cases hc136_9 : kA = (2 : Int32)
    · -- pc 136: kA = (2 : Int32)
      refine own_to (fun _ kont => XS.icmpYes X8.here hx rfl (pc0 := 136) (pc' := 167) rfl (hb hby at_136) rfl (teq hc136_9).1 (by decide) (by decide) kont) ?_
      show own_Ends _ _ _ _ (T8.setTop (mkF m 167 #[.val (.int z1), .val (.int z2), .val (.int z3), .val (.int z4), .val (.int 1), .val (.int kA), .val (.int kB), .val (.int kC), .val (.double (own_el kA z2)), .second, .val (.double (own_el kB z3)), .second, .val (.double (own_el kC z4)), .second, .val (.ref b7), .unset] []))
      refine own_to (fun _ kont => XS.iconst X8.here hx rfl (hb hby at_167) kont) ?_
      show own_Ends _ _ _ _ (T8.setTop (mkF m 168 #[.val (.int z1), .val (.int z2), .val (.int z3), .val (.int z4), .val (.int 1), .val (.int kA), .val (.int kB), .val (.int kC), .val (.double (own_el kA z2)), .second, .val (.double (own_el kB z3)), .second, .val (.double (own_el kC z4)), .second, .val (.ref b7), .unset] [(.int 0)]))
      refine own_to (fun _ kont => XS.istore X8.here hx rfl (hb hby at_168) rfl (l' := #[.val (.int z1), .val (.int z2), .val (.int z3), .val (.int z4), .val (.int (1 : Int32)), .val (.int kA), .val (.int kB), .val (.int kC), .val (.double (own_el kA z2)), .second, .val (.double (own_el kB z3)), .second, .val (.double (own_el kC z4)), .second, .val (.ref b7), .val (.int (0 : Int32))]) rfl kont) ?_
      show own_Ends _ _ _ _ (T8.setTop (mkF m 170 #[.val (.int z1), .val (.int z2), .val (.int z3), .val (.int z4), .val (.int 1), .val (.int kA), .val (.int kB), .val (.int kC), .val (.double (own_el kA z2)), .second, .val (.double (own_el kB z3)), .second, .val (.double (own_el kC z4)), .second, .val (.ref b7), .val (.int 0)] []))
      refine own_to (fun _ kont => XS.aload X8.here hx rfl (hb hby at_170) rfl rfl kont) ?_
      show own_Ends _ _ _ _ (T8.setTop (mkF m 172 #[.val (.int z1), .val (.int z2), .val (.int z3), .val (.int z4), .val (.int 1), .val (.int kA), .val (.int kB), .val (.int kC), .val (.double (own_el kA z2)), .second, .val (.double (own_el kB z3)), .second, .val (.double (own_el kC z4)), .second, .val (.ref b7), .val (.int 0)] [(.ref b7)]))
      obtain ⟨_, _, ⟨T10, L10, k10, n10⟩, -, X10, ⟨Lc10, hQ10, l10, y10, z10⟩, st10⟩ := Jvm.LawKit.callS X8 hx (y := oM1) hown (mvT hZ (ow5 hw)) (mvT hZ (ow6 hw)) (mvT hZ (ow7 hw)) (mvT hZ (ow8 hw)) (by decide) (backOf (W := 0) (rmF10 l Z a0 hw [] b7 k7 (own_el kA z2) h8 n0 O8 Vs8 (own_el_inf hc136_9)) hZ (ow8 hw) (ow7 hw) (by decide) (by decide)) (g := (mkF m 172 #[.val (.int z1), .val (.int z2), .val (.int z3), .val (.int z4), .val (.int (1 : Int32)), .val (.int kA), .val (.int kB), .val (.int kC), .val (.double (own_el kA z2)), .second, .val (.double (own_el kB z3)), .second, .val (.double (own_el kC z4)), .second, .val (.ref b7), .val (.int (0 : Int32))] [(.ref b7)])) rfl (by rw [hml]; rfl) (argsL := [(.ref b7)]) (rest := []) (lenOf pd_1 rfl) rfl (by show 2 * 0 + _ ≤ _; exact Nat.le_of_eq rfl) (hb hby at_172) (fun _ _ => ⟨rfl, e8, (own_le rfl), (own_le rfl)⟩)
      dsimp only [Pt.U, Pt.locs, Pt.cells, Pt.slots] at X10 l10 y10 z10 st10 hQ10
      subst y10 z10
      obtain ⟨rfl, N10q, E10⟩ := hQ10
      have N10 := own_fr l10 N8 N10q
      refine own_to st10 ?_
      show own_Ends _ _ _ _ (T10.setTop (mkF m 175 #[.val (.int z1), .val (.int z2), .val (.int z3), .val (.int z4), .val (.int 1), .val (.int kA), .val (.int kB), .val (.int kC), .val (.double (own_el kA z2)), .second, .val (.double (own_el kB z3)), .second, .val (.double (own_el kC z4)), .second, .val (.ref b7), .val (.int 0)] [(.int 0)]))
      refine own_to (fun _ kont => XS.iload X10.here hx rfl (hb hby at_175) rfl kont) ?_
      show own_Ends _ _ _ _ (T10.setTop (mkF m 177 #[.val (.int z1), .val (.int z2), .val (.int z3), .val (.int z4), .val (.int 1), .val (.int kA), .val (.int kB), .val (.int kC), .val (.double (own_el kA z2)), .second, .val (.double (own_el kB z3)), .second, .val (.double (own_el kC z4)), .second, .val (.ref b7), .val (.int 0)] [(.int 0), (.int 0)]))
      refine own_to (fun _ kont => XS.icmpNo X10.here hx rfl (hb hby at_177) rfl (teq (by decide)).2 kont) ?_
      show own_Ends _ _ _ _ (T10.setTop (mkF m 180 #[.val (.int z1), .val (.int z2), .val (.int z3), .val (.int z4), .val (.int 1), .val (.int kA), .val (.int kB), .val (.int kC), .val (.double (own_el kA z2)), .second, .val (.double (own_el kB z3)), .second, .val (.double (own_el kC z4)), .second, .val (.ref b7), .val (.int 0)] []))
      refine own_to (fun _ kont => XS.iconst X10.here hx rfl (hb hby at_180) kont) ?_
      show own_Ends _ _ _ _ (T10.setTop (mkF m 181 #[.val (.int z1), .val (.int z2), .val (.int z3), .val (.int z4), .val (.int 1), .val (.int kA), .val (.int kB), .val (.int kC), .val (.double (own_el kA z2)), .second, .val (.double (own_el kB z3)), .second, .val (.double (own_el kC z4)), .second, .val (.ref b7), .val (.int 0)] [(.int 1)]))
      refine own_to (fun _ kont => XS.goto X10.here hx rfl (pc0 := 181) (pc' := 185) rfl (hb hby at_181) (by decide) (by decide) kont) ?_
      show own_Ends _ _ _ _ (T10.setTop (mkF m 185 #[.val (.int z1), .val (.int z2), .val (.int z3), .val (.int z4), .val (.int 1), .val (.int kA), .val (.int kB), .val (.int kC), .val (.double (own_el kA z2)), .second, .val (.double (own_el kB z3)), .second, .val (.double (own_el kC z4)), .second, .val (.ref b7), .val (.int 0)] [(.int 1)]))
      refine own_leave X10 (v := some (.int (1 : Int32))) (fun h => by rw [Bd.returns] at h; cases h) ?_ (by decide) (by decide) (fun fs hr => retN X10 hx (t := .boolean) Bd.returns (by simp) (hb hby at_185) hr)
      show Q_rm0 Z z1 z2 z3 z4 h0 n0 _ T10.heap _
      rw [E10]
      exact ⟨rfl, N10⟩
    · -- pc 136: not kA = (2 : Int32)
      refine own_to (fun _ kont => XS.icmpNo X8.here hx rfl (hb hby at_136) rfl (feq hc136_9).1 kont) ?_
      show own_Ends _ _ _ _ (T8.setTop (mkF m 139 #[.val (.int z1), .val (.int z2), .val (.int z3), .val (.int z4), .val (.int 1), .val (.int kA), .val (.int kB), .val (.int kC), .val (.double (own_el kA z2)), .second, .val (.double (own_el kB z3)), .second, .val (.double (own_el kC z4)), .second, .val (.ref b7), .unset] []))
      refine own_to (fun _ kont => XS.iload X8.here hx rfl (hb hby at_139) rfl kont) ?_
      show own_Ends _ _ _ _ (T8.setTop (mkF m 141 #[.val (.int z1), .val (.int z2), .val (.int z3), .val (.int z4), .val (.int 1), .val (.int kA), .val (.int kB), .val (.int kC), .val (.double (own_el kA z2)), .second, .val (.double (own_el kB z3)), .second, .val (.double (own_el kC z4)), .second, .val (.ref b7), .unset] [(.int 1)]))
      refine own_to (fun _ kont => XS.iconst X8.here hx rfl (hb hby at_141) kont) ?_
      show own_Ends _ _ _ _ (T8.setTop (mkF m 142 #[.val (.int z1), .val (.int z2), .val (.int z3), .val (.int z4), .val (.int 1), .val (.int kA), .val (.int kB), .val (.int kC), .val (.double (own_el kA z2)), .second, .val (.double (own_el kB z3)), .second, .val (.double (own_el kC z4)), .second, .val (.ref b7), .unset] [(.int 2), (.int 1)]))
      refine own_to (fun _ kont => XS.icmpYes X8.here hx rfl (pc0 := 142) (pc' := 151) rfl (hb hby at_142) rfl (tlt (by decide)).1 (by decide) (by decide) kont) ?_
      show own_Ends _ _ _ _ (T8.setTop (mkF m 151 #[.val (.int z1), .val (.int z2), .val (.int z3), .val (.int z4), .val (.int 1), .val (.int kA), .val (.int kB), .val (.int kC), .val (.double (own_el kA z2)), .second, .val (.double (own_el kB z3)), .second, .val (.double (own_el kC z4)), .second, .val (.ref b7), .unset] []))
      refine own_to (fun _ kont => XS.iload X8.here hx rfl (hb hby at_151) rfl kont) ?_
      show own_Ends _ _ _ _ (T8.setTop (mkF m 153 #[.val (.int z1), .val (.int z2), .val (.int z3), .val (.int z4), .val (.int 1), .val (.int kA), .val (.int kB), .val (.int kC), .val (.double (own_el kA z2)), .second, .val (.double (own_el kB z3)), .second, .val (.double (own_el kC z4)), .second, .val (.ref b7), .unset] [(.int 1)]))
      refine own_to (fun _ kont => XS.iconst X8.here hx rfl (hb hby at_153) kont) ?_
      show own_Ends _ _ _ _ (T8.setTop (mkF m 154 #[.val (.int z1), .val (.int z2), .val (.int z3), .val (.int z4), .val (.int 1), .val (.int kA), .val (.int kB), .val (.int kC), .val (.double (own_el kA z2)), .second, .val (.double (own_el kB z3)), .second, .val (.double (own_el kC z4)), .second, .val (.ref b7), .unset] [(.int 3), (.int 1)]))
      refine own_to (fun _ kont => XS.icmpYes X8.here hx rfl (pc0 := 154) (pc' := 163) rfl (hb hby at_154) rfl (tlt (by decide)).1 (by decide) (by decide) kont) ?_
      show own_Ends _ _ _ _ (T8.setTop (mkF m 163 #[.val (.int z1), .val (.int z2), .val (.int z3), .val (.int z4), .val (.int 1), .val (.int kA), .val (.int kB), .val (.int kC), .val (.double (own_el kA z2)), .second, .val (.double (own_el kB z3)), .second, .val (.double (own_el kC z4)), .second, .val (.ref b7), .unset] []))
      refine own_to (fun _ kont => XS.iconst X8.here hx rfl (hb hby at_163) kont) ?_
      show own_Ends _ _ _ _ (T8.setTop (mkF m 164 #[.val (.int z1), .val (.int z2), .val (.int z3), .val (.int z4), .val (.int 1), .val (.int kA), .val (.int kB), .val (.int kC), .val (.double (own_el kA z2)), .second, .val (.double (own_el kB z3)), .second, .val (.double (own_el kC z4)), .second, .val (.ref b7), .unset] [(.int 1)]))
      refine own_to (fun _ kont => XS.goto X8.here hx rfl (pc0 := 164) (pc' := 168) rfl (hb hby at_164) (by decide) (by decide) kont) ?_
      show own_Ends _ _ _ _ (T8.setTop (mkF m 168 #[.val (.int z1), .val (.int z2), .val (.int z3), .val (.int z4), .val (.int 1), .val (.int kA), .val (.int kB), .val (.int kC), .val (.double (own_el kA z2)), .second, .val (.double (own_el kB z3)), .second, .val (.double (own_el kC z4)), .second, .val (.ref b7), .unset] [(.int 1)]))
      refine own_to (fun _ kont => XS.istore X8.here hx rfl (hb hby at_168) rfl (l' := #[.val (.int z1), .val (.int z2), .val (.int z3), .val (.int z4), .val (.int (1 : Int32)), .val (.int kA), .val (.int kB), .val (.int kC), .val (.double (own_el kA z2)), .second, .val (.double (own_el kB z3)), .second, .val (.double (own_el kC z4)), .second, .val (.ref b7), .val (.int (1 : Int32))]) rfl kont) ?_
      show own_Ends _ _ _ _ (T8.setTop (mkF m 170 #[.val (.int z1), .val (.int z2), .val (.int z3), .val (.int z4), .val (.int 1), .val (.int kA), .val (.int kB), .val (.int kC), .val (.double (own_el kA z2)), .second, .val (.double (own_el kB z3)), .second, .val (.double (own_el kC z4)), .second, .val (.ref b7), .val (.int 1)] []))
      refine own_to (fun _ kont => XS.aload X8.here hx rfl (hb hby at_170) rfl rfl kont) ?_
      show own_Ends _ _ _ _ (T8.setTop (mkF m 172 #[.val (.int z1), .val (.int z2), .val (.int z3), .val (.int z4), .val (.int 1), .val (.int kA), .val (.int kB), .val (.int kC), .val (.double (own_el kA z2)), .second, .val (.double (own_el kB z3)), .second, .val (.double (own_el kC z4)), .second, .val (.ref b7), .val (.int 1)] [(.ref b7)]))
      obtain ⟨_, _, ⟨T11, L11, k11, n11⟩, -, X11, ⟨Lc11, hQ11, l11, y11, z11⟩, st11⟩ := Jvm.LawKit.callS X8 hx (y := oM1) hown (mvT hZ (ow5 hw)) (mvT hZ (ow6 hw)) (mvT hZ (ow7 hw)) (mvT hZ (ow8 hw)) (by decide) (backOf (W := 0) (rmF11 l Z a0 hw [] b7 k7 (own_el kA z2) h8 n0 O8 Vs8 (own_el_fin hc136_9)) hZ (ow8 hw) (ow7 hw) (by decide) (by decide)) (g := (mkF m 172 #[.val (.int z1), .val (.int z2), .val (.int z3), .val (.int z4), .val (.int (1 : Int32)), .val (.int kA), .val (.int kB), .val (.int kC), .val (.double (own_el kA z2)), .second, .val (.double (own_el kB z3)), .second, .val (.double (own_el kC z4)), .second, .val (.ref b7), .val (.int (1 : Int32))] [(.ref b7)])) rfl (by rw [hml]; rfl) (argsL := [(.ref b7)]) (rest := []) (lenOf pd_1 rfl) rfl (by show 2 * 0 + _ ≤ _; exact Nat.le_of_eq rfl) (hb hby at_172) (fun _ _ => ⟨rfl, e8, (own_le rfl), (own_le rfl)⟩)
      dsimp only [Pt.U, Pt.locs, Pt.cells, Pt.slots] at X11 l11 y11 z11 st11 hQ11
      subst y11 z11
      obtain ⟨rfl, N11q, E11⟩ := hQ11
      have N11 := own_fr l11 N8 N11q
      refine own_to st11 ?_
      show own_Ends _ _ _ _ (T11.setTop (mkF m 175 #[.val (.int z1), .val (.int z2), .val (.int z3), .val (.int z4), .val (.int 1), .val (.int kA), .val (.int kB), .val (.int kC), .val (.double (own_el kA z2)), .second, .val (.double (own_el kB z3)), .second, .val (.double (own_el kC z4)), .second, .val (.ref b7), .val (.int 1)] [(.int 1)]))
      refine own_to (fun _ kont => XS.iload X11.here hx rfl (hb hby at_175) rfl kont) ?_
      show own_Ends _ _ _ _ (T11.setTop (mkF m 177 #[.val (.int z1), .val (.int z2), .val (.int z3), .val (.int z4), .val (.int 1), .val (.int kA), .val (.int kB), .val (.int kC), .val (.double (own_el kA z2)), .second, .val (.double (own_el kB z3)), .second, .val (.double (own_el kC z4)), .second, .val (.ref b7), .val (.int 1)] [(.int 1), (.int 1)]))
      refine own_to (fun _ kont => XS.icmpNo X11.here hx rfl (hb hby at_177) rfl (teq (by decide)).2 kont) ?_
      show own_Ends _ _ _ _ (T11.setTop (mkF m 180 #[.val (.int z1), .val (.int z2), .val (.int z3), .val (.int z4), .val (.int 1), .val (.int kA), .val (.int kB), .val (.int kC), .val (.double (own_el kA z2)), .second, .val (.double (own_el kB z3)), .second, .val (.double (own_el kC z4)), .second, .val (.ref b7), .val (.int 1)] []))
      refine own_to (fun _ kont => XS.iconst X11.here hx rfl (hb hby at_180) kont) ?_
      show own_Ends _ _ _ _ (T11.setTop (mkF m 181 #[.val (.int z1), .val (.int z2), .val (.int z3), .val (.int z4), .val (.int 1), .val (.int kA), .val (.int kB), .val (.int kC), .val (.double (own_el kA z2)), .second, .val (.double (own_el kB z3)), .second, .val (.double (own_el kC z4)), .second, .val (.ref b7), .val (.int 1)] [(.int 1)]))
      refine own_to (fun _ kont => XS.goto X11.here hx rfl (pc0 := 181) (pc' := 185) rfl (hb hby at_181) (by decide) (by decide) kont) ?_
      show own_Ends _ _ _ _ (T11.setTop (mkF m 185 #[.val (.int z1), .val (.int z2), .val (.int z3), .val (.int z4), .val (.int 1), .val (.int kA), .val (.int kB), .val (.int kC), .val (.double (own_el kA z2)), .second, .val (.double (own_el kB z3)), .second, .val (.double (own_el kC z4)), .second, .val (.ref b7), .val (.int 1)] [(.int 1)]))
      refine own_leave X11 (v := some (.int (1 : Int32))) (fun h => by rw [Bd.returns] at h; cases h) ?_ (by decide) (by decide) (fun fs hr => retN X11 hx (t := .boolean) Bd.returns (by simp) (hb hby at_185) hr)
      show Q_rm0 Z z1 z2 z3 z4 h0 n0 _ T11.heap _
      rw [E11]
      exact ⟨rfl, N11⟩
  · skip
    show own_Ends _ _ _ _ (T3.setTop (mkF m 51 #[.val (.int z1), .val (.int z2), .val (.int z3), .val (.int z4), .val (.int 2), .val (.int kA), .val (.int kB), .val (.int kC), .val (.double (own_el kA z2)), .second, .val (.double (own_el kB z3)), .second, .val (.double (own_el kC z4)), .second, .unset, .unset] []))
    refine own_to (fun _ kont => XS.iload X3.here hx rfl (hb hby at_51) rfl kont) ?_
    show own_Ends _ _ _ _ (T3.setTop (mkF m 53 #[.val (.int z1), .val (.int z2), .val (.int z3), .val (.int z4), .val (.int 2), .val (.int kA), .val (.int kB), .val (.int kC), .val (.double (own_el kA z2)), .second, .val (.double (own_el kB z3)), .second, .val (.double (own_el kC z4)), .second, .unset, .unset] [(.int 2)]))
    refine own_to (fun _ kont => XS.ifYes X3.here hx rfl (pc0 := 53) (pc' := 64) rfl (hb hby at_53) rfl ((if0 _ _).trans (feq (by decide)).2) (by decide) (by decide) kont) ?_
    show own_Ends _ _ _ _ (T3.setTop (mkF m 64 #[.val (.int z1), .val (.int z2), .val (.int z3), .val (.int z4), .val (.int 2), .val (.int kA), .val (.int kB), .val (.int kC), .val (.double (own_el kA z2)), .second, .val (.double (own_el kB z3)), .second, .val (.double (own_el kC z4)), .second, .unset, .unset] []))
    refine own_to (fun _ kont => XS.iload X3.here hx rfl (hb hby at_64) rfl kont) ?_
    show own_Ends _ _ _ _ (T3.setTop (mkF m 66 #[.val (.int z1), .val (.int z2), .val (.int z3), .val (.int z4), .val (.int 2), .val (.int kA), .val (.int kB), .val (.int kC), .val (.double (own_el kA z2)), .second, .val (.double (own_el kB z3)), .second, .val (.double (own_el kC z4)), .second, .unset, .unset] [(.int 2)]))
    refine own_to (fun _ kont => XS.iconst X3.here hx rfl (hb hby at_66) kont) ?_
    show own_Ends _ _ _ _ (T3.setTop (mkF m 67 #[.val (.int z1), .val (.int z2), .val (.int z3), .val (.int z4), .val (.int 2), .val (.int kA), .val (.int kB), .val (.int kC), .val (.double (own_el kA z2)), .second, .val (.double (own_el kB z3)), .second, .val (.double (own_el kC z4)), .second, .unset, .unset] [(.int 1), (.int 2)]))
    refine own_to (fun _ kont => XS.icmpYes X3.here hx rfl (pc0 := 67) (pc' := 83) rfl (hb hby at_67) rfl (feq (by decide)).2 (by decide) (by decide) kont) ?_
    show own_Ends _ _ _ _ (T3.setTop (mkF m 83 #[.val (.int z1), .val (.int z2), .val (.int z3), .val (.int z4), .val (.int 2), .val (.int kA), .val (.int kB), .val (.int kC), .val (.double (own_el kA z2)), .second, .val (.double (own_el kB z3)), .second, .val (.double (own_el kC z4)), .second, .unset, .unset] []))
    refine own_to (fun _ kont => XS.iload X3.here hx rfl (hb hby at_83) rfl kont) ?_
    show own_Ends _ _ _ _ (T3.setTop (mkF m 85 #[.val (.int z1), .val (.int z2), .val (.int z3), .val (.int z4), .val (.int 2), .val (.int kA), .val (.int kB), .val (.int kC), .val (.double (own_el kA z2)), .second, .val (.double (own_el kB z3)), .second, .val (.double (own_el kC z4)), .second, .unset, .unset] [(.int 2)]))
    refine own_to (fun _ kont => XS.iconst X3.here hx rfl (hb hby at_85) kont) ?_
    show own_Ends _ _ _ _ (T3.setTop (mkF m 86 #[.val (.int z1), .val (.int z2), .val (.int z3), .val (.int z4), .val (.int 2), .val (.int kA), .val (.int kB), .val (.int kC), .val (.double (own_el kA z2)), .second, .val (.double (own_el kB z3)), .second, .val (.double (own_el kC z4)), .second, .unset, .unset] [(.int 2), (.int 2)]))
    refine own_to (fun _ kont => XS.icmpNo X3.here hx rfl (hb hby at_86) rfl (teq (by decide)).2 kont) ?_
    show own_Ends _ _ _ _ (T3.setTop (mkF m 89 #[.val (.int z1), .val (.int z2), .val (.int z3), .val (.int z4), .val (.int 2), .val (.int kA), .val (.int kB), .val (.int kC), .val (.double (own_el kA z2)), .second, .val (.double (own_el kB z3)), .second, .val (.double (own_el kC z4)), .second, .unset, .unset] []))
    refine own_to (fun _ kont => XS.iconst X3.here hx rfl (hb hby at_89) kont) ?_
    show own_Ends _ _ _ _ (T3.setTop (mkF m 90 #[.val (.int z1), .val (.int z2), .val (.int z3), .val (.int z4), .val (.int 2), .val (.int kA), .val (.int kB), .val (.int kC), .val (.double (own_el kA z2)), .second, .val (.double (own_el kB z3)), .second, .val (.double (own_el kC z4)), .second, .unset, .unset] [(.int 2)]))
    obtain ⟨T12, h12, k12, X12, e12, E12, A12, st12⟩ := newP X3 hx hZ (aty := .double) (ow4 hw) E3 (g := (mkF m 90 #[.val (.int z1), .val (.int z2), .val (.int z3), .val (.int z4), .val (.int (2 : Int32)), .val (.int kA), .val (.int kB), .val (.int kC), .val (.double (own_el kA z2)), .second, .val (.double (own_el kB z3)), .second, .val (.double (own_el kC z4)), .second, .unset, .unset] [(.int (2 : Int32))])) rfl (hb hby at_90) rfl (by decide) (cap := 2) (by decide) (by decide) (by decide) (by decide)
    obtain ⟨b12, g12⟩ : ∃ z, z = h0.size := ⟨_, rfl⟩
    rw [← g12] at A12 st12
    have g_b12 : n0 ≤ b12 := Nat.le_trans (own_old_le O0) (Nat.le_of_eq g12.symm)
    refine own_to st12 ?_
    have O12 := O0.ext E12
    have Vn12 : Arv Z h12 b12 k12 .double (2 : Int32) [(.double (FP.l2d 0)), (.double (FP.l2d 0))] (.double (FP.l2d 0)) := (Arv.newD A12 (by decide)).pad (pad_rep [] (.double (FP.l2d 0)) 2)
    show own_Ends _ _ _ _ (T12.setTop (mkF m 92 #[.val (.int z1), .val (.int z2), .val (.int z3), .val (.int z4), .val (.int 2), .val (.int kA), .val (.int kB), .val (.int kC), .val (.double (own_el kA z2)), .second, .val (.double (own_el kB z3)), .second, .val (.double (own_el kC z4)), .second, .unset, .unset] [(.ref b12)]))
    refine own_to (fun _ kont => XS.dup X12.here hx rfl (hb hby at_92) rfl rfl kont) ?_
    show own_Ends _ _ _ _ (T12.setTop (mkF m 93 #[.val (.int z1), .val (.int z2), .val (.int z3), .val (.int z4), .val (.int 2), .val (.int kA), .val (.int kB), .val (.int kC), .val (.double (own_el kA z2)), .second, .val (.double (own_el kB z3)), .second, .val (.double (own_el kC z4)), .second, .unset, .unset] [(.ref b12), (.ref b12)]))
    refine own_to (fun _ kont => XS.iconst X12.here hx rfl (hb hby at_93) kont) ?_
    show own_Ends _ _ _ _ (T12.setTop (mkF m 94 #[.val (.int z1), .val (.int z2), .val (.int z3), .val (.int z4), .val (.int 2), .val (.int kA), .val (.int kB), .val (.int kC), .val (.double (own_el kA z2)), .second, .val (.double (own_el kB z3)), .second, .val (.double (own_el kC z4)), .second, .unset, .unset] [(.int 0), (.ref b12), (.ref b12)]))
    refine own_to (fun _ kont => XS.dload X12.here hx rfl (hb hby at_94) rfl kont) ?_
    show own_Ends _ _ _ _ (T12.setTop (mkF m 96 #[.val (.int z1), .val (.int z2), .val (.int z3), .val (.int z4), .val (.int 2), .val (.int kA), .val (.int kB), .val (.int kC), .val (.double (own_el kA z2)), .second, .val (.double (own_el kB z3)), .second, .val (.double (own_el kC z4)), .second, .unset, .unset] [(.double (own_el kA z2)), (.int 0), (.ref b12), (.ref b12)]))
    obtain ⟨cl13, Ar13, q13, S13, M13, H13, G13⟩ := id Vn12
    have hin13 : ¬ ((0 : Int32) < 0 ∨ cl13.slots.size ≤ ((0 : Int32)).toNatClampNeg) := inb_of S13 ⟨by decide, by decide⟩
    obtain ⟨T13, h13, X13, e13, W13, st13⟩ := stD X12 hx hZ e12 Ar13 (j := (0 : Int32)) hin13 (g := (mkF m 96 #[.val (.int z1), .val (.int z2), .val (.int z3), .val (.int z4), .val (.int (2 : Int32)), .val (.int kA), .val (.int kB), .val (.int kC), .val (.double (own_el kA z2)), .second, .val (.double (own_el kB z3)), .second, .val (.double (own_el kC z4)), .second, .unset, .unset] [(.double (own_el kA z2)), (.int (0 : Int32)), (.ref b12), (.ref b12)])) rfl rfl (hb hby at_96)
    have Vs13 : Arv Z h13 b12 k12 .double (2 : Int32) [(.double (own_el kA z2)), (.double (FP.l2d 0))] (.double (FP.l2d 0)) := Arv.set Ar13 q13 S13 M13 H13 G13 rfl W13 0 rfl (own_lt rfl)
    refine own_to st13 ?_
    have O13 := O12.wr W13 g_b12
    have N13 := Fr.snoc X13 N3 g_b12
    show own_Ends _ _ _ _ (T13.setTop (mkF m 97 #[.val (.int z1), .val (.int z2), .val (.int z3), .val (.int z4), .val (.int 2), .val (.int kA), .val (.int kB), .val (.int kC), .val (.double (own_el kA z2)), .second, .val (.double (own_el kB z3)), .second, .val (.double (own_el kC z4)), .second, .unset, .unset] [(.ref b12)]))
    refine own_to (fun _ kont => XS.dup X13.here hx rfl (hb hby at_97) rfl rfl kont) ?_
    show own_Ends _ _ _ _ (T13.setTop (mkF m 98 #[.val (.int z1), .val (.int z2), .val (.int z3), .val (.int z4), .val (.int 2), .val (.int kA), .val (.int kB), .val (.int kC), .val (.double (own_el kA z2)), .second, .val (.double (own_el kB z3)), .second, .val (.double (own_el kC z4)), .second, .unset, .unset] [(.ref b12), (.ref b12)]))
    refine own_to (fun _ kont => XS.iconst X13.here hx rfl (hb hby at_98) kont) ?_
    show own_Ends _ _ _ _ (T13.setTop (mkF m 99 #[.val (.int z1), .val (.int z2), .val (.int z3), .val (.int z4), .val (.int 2), .val (.int kA), .val (.int kB), .val (.int kC), .val (.double (own_el kA z2)), .second, .val (.double (own_el kB z3)), .second, .val (.double (own_el kC z4)), .second, .unset, .unset] [(.int 1), (.ref b12), (.ref b12)]))
    refine own_to (fun _ kont => XS.dload X13.here hx rfl (hb hby at_99) rfl kont) ?_
    show own_Ends _ _ _ _ (T13.setTop (mkF m 101 #[.val (.int z1), .val (.int z2), .val (.int z3), .val (.int z4), .val (.int 2), .val (.int kA), .val (.int kB), .val (.int kC), .val (.double (own_el kA z2)), .second, .val (.double (own_el kB z3)), .second, .val (.double (own_el kC z4)), .second, .unset, .unset] [(.double (own_el kB z3)), (.int 1), (.ref b12), (.ref b12)]))
    obtain ⟨cl14, Ar14, q14, S14, M14, H14, G14⟩ := id Vs13
    have hin14 : ¬ ((1 : Int32) < 0 ∨ cl14.slots.size ≤ ((1 : Int32)).toNatClampNeg) := inb_of S14 ⟨by decide, by decide⟩
    obtain ⟨T14, h14, X14, e14, W14, st14⟩ := stD X13 hx hZ e13 Ar14 (j := (1 : Int32)) hin14 (g := (mkF m 101 #[.val (.int z1), .val (.int z2), .val (.int z3), .val (.int z4), .val (.int (2 : Int32)), .val (.int kA), .val (.int kB), .val (.int kC), .val (.double (own_el kA z2)), .second, .val (.double (own_el kB z3)), .second, .val (.double (own_el kC z4)), .second, .unset, .unset] [(.double (own_el kB z3)), (.int (1 : Int32)), (.ref b12), (.ref b12)])) rfl rfl (hb hby at_101)
    have Vs14 : Arv Z h14 b12 k12 .double (2 : Int32) [(.double (own_el kA z2)), (.double (own_el kB z3))] (.double (FP.l2d 0)) := Arv.set Ar14 q14 S14 M14 H14 G14 rfl W14 1 rfl (own_lt rfl)
    refine own_to st14 ?_
    have O14 := O13.wr W14 g_b12
    have N14 := Fr.snoc X14 N13 g_b12
    show own_Ends _ _ _ _ (T14.setTop (mkF m 102 #[.val (.int z1), .val (.int z2), .val (.int z3), .val (.int z4), .val (.int 2), .val (.int kA), .val (.int kB), .val (.int kC), .val (.double (own_el kA z2)), .second, .val (.double (own_el kB z3)), .second, .val (.double (own_el kC z4)), .second, .unset, .unset] [(.ref b12)]))
    refine own_to (fun _ kont => XS.astore X14.here hx rfl (hb hby at_102) rfl rfl (l' := #[.val (.int z1), .val (.int z2), .val (.int z3), .val (.int z4), .val (.int (2 : Int32)), .val (.int kA), .val (.int kB), .val (.int kC), .val (.double (own_el kA z2)), .second, .val (.double (own_el kB z3)), .second, .val (.double (own_el kC z4)), .second, .val (.ref b12), .unset]) rfl kont) ?_
    show own_Ends _ _ _ _ (T14.setTop (mkF m 104 #[.val (.int z1), .val (.int z2), .val (.int z3), .val (.int z4), .val (.int 2), .val (.int kA), .val (.int kB), .val (.int kC), .val (.double (own_el kA z2)), .second, .val (.double (own_el kB z3)), .second, .val (.double (own_el kC z4)), .second, .val (.ref b12), .unset] []))
    refine own_to (fun _ kont => XS.goto X14.here hx rfl (pc0 := 104) (pc' := 127) rfl (hb hby at_104) (by decide) (by decide) kont) ?_
    show own_Ends _ _ _ _ (T14.setTop (mkF m 127 #[.val (.int z1), .val (.int z2), .val (.int z3), .val (.int z4), .val (.int 2), .val (.int kA), .val (.int kB), .val (.int kC), .val (.double (own_el kA z2)), .second, .val (.double (own_el kB z3)), .second, .val (.double (own_el kC z4)), .second, .val (.ref b12), .unset] []))
    refine own_to (fun _ kont => XS.iload X14.here hx rfl (hb hby at_127) rfl kont) ?_
    show own_Ends _ _ _ _ (T14.setTop (mkF m 129 #[.val (.int z1), .val (.int z2), .val (.int z3), .val (.int z4), .val (.int 2), .val (.int kA), .val (.int kB), .val (.int kC), .val (.double (own_el kA z2)), .second, .val (.double (own_el kB z3)), .second, .val (.double (own_el kC z4)), .second, .val (.ref b12), .unset] [(.int 2)]))
    refine own_to (fun _ kont => XS.iconst X14.here hx rfl (hb hby at_129) kont) ?_
    show own_Ends _ _ _ _ (T14.setTop (mkF m 130 #[.val (.int z1), .val (.int z2), .val (.int z3), .val (.int z4), .val (.int 2), .val (.int kA), .val (.int kB), .val (.int kC), .val (.double (own_el kA z2)), .second, .val (.double (own_el kB z3)), .second, .val (.double (own_el kC z4)), .second, .val (.ref b12), .unset] [(.int 1), (.int 2)]))
    refine own_to (fun _ kont => XS.icmpNo X14.here hx rfl (hb hby at_130) rfl (flt (by decide)).1 kont) ?_
    show own_Ends _ _ _ _ (T14.setTop (mkF m 133 #[.val (.int z1), .val (.int z2), .val (.int z3), .val (.int z4), .val (.int 2), .val (.int kA), .val (.int kB), .val (.int kC), .val (.double (own_el kA z2)), .second, .val (.double (own_el kB z3)), .second, .val (.double (own_el kC z4)), .second, .val (.ref b12), .unset] []))
    refine own_to (fun _ kont => XS.iload X14.here hx rfl (hb hby at_133) rfl kont) ?_
    show own_Ends _ _ _ _ (T14.setTop (mkF m 135 #[.val (.int z1), .val (.int z2), .val (.int z3), .val (.int z4), .val (.int 2), .val (.int kA), .val (.int kB), .val (.int kC), .val (.double (own_el kA z2)), .second, .val (.double (own_el kB z3)), .second, .val (.double (own_el kC z4)), .second, .val (.ref b12), .unset] [(.int kA)]))
    refine own_to (fun _ kont => XS.iconst X14.here hx rfl (hb hby at_135) kont) ?_
    show own_Ends _ _ _ _ (T14.setTop (mkF m 136 #[.val (.int z1), .val (.int z2), .val (.int z3), .val (.int z4), .val (.int 2), .val (.int kA), .val (.int kB), .val (.int kC), .val (.double (own_el kA z2)), .second, .val (.double (own_el kB z3)), .second, .val (.double (own_el kC z4)), .second, .val (.ref b12), .unset] [(.int 2), (.int kA)]))
    by_cases hc136_15 : kA = (2 : Int32)
    · -- pc 136: kA = (2 : Int32)
      refine own_to (fun _ kont => XS.icmpYes X14.here hx rfl (pc0 := 136) (pc' := 167) rfl (hb hby at_136) rfl (teq hc136_15).1 (by decide) (by decide) kont) ?_
      show own_Ends _ _ _ _ (T14.setTop (mkF m 167 #[.val (.int z1), .val (.int z2), .val (.int z3), .val (.int z4), .val (.int 2), .val (.int kA), .val (.int kB), .val (.int kC), .val (.double (own_el kA z2)), .second, .val (.double (own_el kB z3)), .second, .val (.double (own_el kC z4)), .second, .val (.ref b12), .unset] []))
      refine own_to (fun _ kont => XS.iconst X14.here hx rfl (hb hby at_167) kont) ?_
      show own_Ends _ _ _ _ (T14.setTop (mkF m 168 #[.val (.int z1), .val (.int z2), .val (.int z3), .val (.int z4), .val (.int 2), .val (.int kA), .val (.int kB), .val (.int kC), .val (.double (own_el kA z2)), .second, .val (.double (own_el kB z3)), .second, .val (.double (own_el kC z4)), .second, .val (.ref b12), .unset] [(.int 0)]))
      refine own_to (fun _ kont => XS.istore X14.here hx rfl (hb hby at_168) rfl (l' := #[.val (.int z1), .val (.int z2), .val (.int z3), .val (.int z4), .val (.int (2 : Int32)), .val (.int kA), .val (.int kB), .val (.int kC), .val (.double (own_el kA z2)), .second, .val (.double (own_el kB z3)), .second, .val (.double (own_el kC z4)), .second, .val (.ref b12), .val (.int (0 : Int32))]) rfl kont) ?_
      show own_Ends _ _ _ _ (T14.setTop (mkF m 170 #[.val (.int z1), .val (.int z2), .val (.int z3), .val (.int z4), .val (.int 2), .val (.int kA), .val (.int kB), .val (.int kC), .val (.double (own_el kA z2)), .second, .val (.double (own_el kB z3)), .second, .val (.double (own_el kC z4)), .second, .val (.ref b12), .val (.int 0)] []))
      refine own_to (fun _ kont => XS.aload X14.here hx rfl (hb hby at_170) rfl rfl kont) ?_
      show own_Ends _ _ _ _ (T14.setTop (mkF m 172 #[.val (.int z1), .val (.int z2), .val (.int z3), .val (.int z4), .val (.int 2), .val (.int kA), .val (.int kB), .val (.int kC), .val (.double (own_el kA z2)), .second, .val (.double (own_el kB z3)), .second, .val (.double (own_el kC z4)), .second, .val (.ref b12), .val (.int 0)] [(.ref b12)]))
      obtain ⟨_, _, ⟨T16, L16, k16, n16⟩, -, X16, ⟨Lc16, hQ16, l16, y16, z16⟩, st16⟩ := Jvm.LawKit.callS X14 hx (y := oM1) hown (mvT hZ (ow5 hw)) (mvT hZ (ow6 hw)) (mvT hZ (ow7 hw)) (mvT hZ (ow8 hw)) (by decide) (backOf (W := 0) (rmF20 l Z a0 hw [] b12 k12 (own_el kA z2) (own_el kB z3) h14 n0 O14 Vs14 (own_el_inf hc136_15)) hZ (ow8 hw) (ow7 hw) (by decide) (by decide)) (g := (mkF m 172 #[.val (.int z1), .val (.int z2), .val (.int z3), .val (.int z4), .val (.int (2 : Int32)), .val (.int kA), .val (.int kB), .val (.int kC), .val (.double (own_el kA z2)), .second, .val (.double (own_el kB z3)), .second, .val (.double (own_el kC z4)), .second, .val (.ref b12), .val (.int (0 : Int32))] [(.ref b12)])) rfl (by rw [hml]; rfl) (argsL := [(.ref b12)]) (rest := []) (lenOf pd_1 rfl) rfl (by show 2 * 0 + _ ≤ _; exact Nat.le_of_eq rfl) (hb hby at_172) (fun _ _ => ⟨rfl, e14, (own_le rfl), (own_le rfl)⟩)
      dsimp only [Pt.U, Pt.locs, Pt.cells, Pt.slots] at X16 l16 y16 z16 st16 hQ16
      subst y16 z16
      obtain ⟨rfl, N16q, E16⟩ := hQ16
      have N16 := own_fr l16 N14 N16q
      refine own_to st16 ?_
      show own_Ends _ _ _ _ (T16.setTop (mkF m 175 #[.val (.int z1), .val (.int z2), .val (.int z3), .val (.int z4), .val (.int 2), .val (.int kA), .val (.int kB), .val (.int kC), .val (.double (own_el kA z2)), .second, .val (.double (own_el kB z3)), .second, .val (.double (own_el kC z4)), .second, .val (.ref b12), .val (.int 0)] [(.int 0)]))
      refine own_to (fun _ kont => XS.iload X16.here hx rfl (hb hby at_175) rfl kont) ?_
      show own_Ends _ _ _ _ (T16.setTop (mkF m 177 #[.val (.int z1), .val (.int z2), .val (.int z3), .val (.int z4), .val (.int 2), .val (.int kA), .val (.int kB), .val (.int kC), .val (.double (own_el kA z2)), .second, .val (.double (own_el kB z3)), .second, .val (.double (own_el kC z4)), .second, .val (.ref b12), .val (.int 0)] [(.int 0), (.int 0)]))
      refine own_to (fun _ kont => XS.icmpNo X16.here hx rfl (hb hby at_177) rfl (teq (by decide)).2 kont) ?_
      show own_Ends _ _ _ _ (T16.setTop (mkF m 180 #[.val (.int z1), .val (.int z2), .val (.int z3), .val (.int z4), .val (.int 2), .val (.int kA), .val (.int kB), .val (.int kC), .val (.double (own_el kA z2)), .second, .val (.double (own_el kB z3)), .second, .val (.double (own_el kC z4)), .second, .val (.ref b12), .val (.int 0)] []))
      refine own_to (fun _ kont => XS.iconst X16.here hx rfl (hb hby at_180) kont) ?_
      show own_Ends _ _ _ _ (T16.setTop (mkF m 181 #[.val (.int z1), .val (.int z2), .val (.int z3), .val (.int z4), .val (.int 2), .val (.int kA), .val (.int kB), .val (.int kC), .val (.double (own_el kA z2)), .second, .val (.double (own_el kB z3)), .second, .val (.double (own_el kC z4)), .second, .val (.ref b12), .val (.int 0)] [(.int 1)]))
      refine own_to (fun _ kont => XS.goto X16.here hx rfl (pc0 := 181) (pc' := 185) rfl (hb hby at_181) (by decide) (by decide) kont) ?_
      show own_Ends _ _ _ _ (T16.setTop (mkF m 185 #[.val (.int z1), .val (.int z2), .val (.int z3), .val (.int z4), .val (.int 2), .val (.int kA), .val (.int kB), .val (.int kC), .val (.double (own_el kA z2)), .second, .val (.double (own_el kB z3)), .second, .val (.double (own_el kC z4)), .second, .val (.ref b12), .val (.int 0)] [(.int 1)]))
      refine own_leave X16 (v := some (.int (1 : Int32))) (fun h => by rw [Bd.returns] at h; cases h) ?_ (by decide) (by decide) (fun fs hr => retN X16 hx (t := .boolean) Bd.returns (by simp) (hb hby at_185) hr)
      show Q_rm0 Z z1 z2 z3 z4 h0 n0 _ T16.heap _
      rw [E16]
      exact ⟨rfl, N16⟩
    · -- pc 136: not kA = (2 : Int32)
      refine own_to (fun _ kont => XS.icmpNo X14.here hx rfl (hb hby at_136) rfl (feq hc136_15).1 kont) ?_
      show own_Ends _ _ _ _ (T14.setTop (mkF m 139 #[.val (.int z1), .val (.int z2), .val (.int z3), .val (.int z4), .val (.int 2), .val (.int kA), .val (.int kB), .val (.int kC), .val (.double (own_el kA z2)), .second, .val (.double (own_el kB z3)), .second, .val (.double (own_el kC z4)), .second, .val (.ref b12), .unset] []))
      refine own_to (fun _ kont => XS.iload X14.here hx rfl (hb hby at_139) rfl kont) ?_
      show own_Ends _ _ _ _ (T14.setTop (mkF m 141 #[.val (.int z1), .val (.int z2), .val (.int z3), .val (.int z4), .val (.int 2), .val (.int kA), .val (.int kB), .val (.int kC), .val (.double (own_el kA z2)), .second, .val (.double (own_el kB z3)), .second, .val (.double (own_el kC z4)), .second, .val (.ref b12), .unset] [(.int 2)]))
      refine own_to (fun _ kont => XS.iconst X14.here hx rfl (hb hby at_141) kont) ?_
      show own_Ends _ _ _ _ (T14.setTop (mkF m 142 #[.val (.int z1), .val (.int z2), .val (.int z3), .val (.int z4), .val (.int 2), .val (.int kA), .val (.int kB), .val (.int kC), .val (.double (own_el kA z2)), .second, .val (.double (own_el kB z3)), .second, .val (.double (own_el kC z4)), .second, .val (.ref b12), .unset] [(.int 2), (.int 2)]))
      refine own_to (fun _ kont => XS.icmpNo X14.here hx rfl (hb hby at_142) rfl (flt (by decide)).1 kont) ?_
      show own_Ends _ _ _ _ (T14.setTop (mkF m 145 #[.val (.int z1), .val (.int z2), .val (.int z3), .val (.int z4), .val (.int 2), .val (.int kA), .val (.int kB), .val (.int kC), .val (.double (own_el kA z2)), .second, .val (.double (own_el kB z3)), .second, .val (.double (own_el kC z4)), .second, .val (.ref b12), .unset] []))
      refine own_to (fun _ kont => XS.iload X14.here hx rfl (hb hby at_145) rfl kont) ?_
      show own_Ends _ _ _ _ (T14.setTop (mkF m 147 #[.val (.int z1), .val (.int z2), .val (.int z3), .val (.int z4), .val (.int 2), .val (.int kA), .val (.int kB), .val (.int kC), .val (.double (own_el kA z2)), .second, .val (.double (own_el kB z3)), .second, .val (.double (own_el kC z4)), .second, .val (.ref b12), .unset] [(.int kB)]))
      refine own_to (fun _ kont => XS.iconst X14.here hx rfl (hb hby at_147) kont) ?_
      show own_Ends _ _ _ _ (T14.setTop (mkF m 148 #[.val (.int z1), .val (.int z2), .val (.int z3), .val (.int z4), .val (.int 2), .val (.int kA), .val (.int kB), .val (.int kC), .val (.double (own_el kA z2)), .second, .val (.double (own_el kB z3)), .second, .val (.double (own_el kC z4)), .second, .val (.ref b12), .unset] [(.int 2), (.int kB)]))
      by_cases hc148_17 : kB = (2 : Int32)
      · -- pc 148: kB = (2 : Int32)
        refine own_to (fun _ kont => XS.icmpYes X14.here hx rfl (pc0 := 148) (pc' := 167) rfl (hb hby at_148) rfl (teq hc148_17).1 (by decide) (by decide) kont) ?_
        show own_Ends _ _ _ _ (T14.setTop (mkF m 167 #[.val (.int z1), .val (.int z2), .val (.int z3), .val (.int z4), .val (.int 2), .val (.int kA), .val (.int kB), .val (.int kC), .val (.double (own_el kA z2)), .second, .val (.double (own_el kB z3)), .second, .val (.double (own_el kC z4)), .second, .val (.ref b12), .unset] []))
        refine own_to (fun _ kont => XS.iconst X14.here hx rfl (hb hby at_167) kont) ?_
        show own_Ends _ _ _ _ (T14.setTop (mkF m 168 #[.val (.int z1), .val (.int z2), .val (.int z3), .val (.int z4), .val (.int 2), .val (.int kA), .val (.int kB), .val (.int kC), .val (.double (own_el kA z2)), .second, .val (.double (own_el kB z3)), .second, .val (.double (own_el kC z4)), .second, .val (.ref b12), .unset] [(.int 0)]))
        refine own_to (fun _ kont => XS.istore X14.here hx rfl (hb hby at_168) rfl (l' := #[.val (.int z1), .val (.int z2), .val (.int z3), .val (.int z4), .val (.int (2 : Int32)), .val (.int kA), .val (.int kB), .val (.int kC), .val (.double (own_el kA z2)), .second, .val (.double (own_el kB z3)), .second, .val (.double (own_el kC z4)), .second, .val (.ref b12), .val (.int (0 : Int32))]) rfl kont) ?_
        show own_Ends _ _ _ _ (T14.setTop (mkF m 170 #[.val (.int z1), .val (.int z2), .val (.int z3), .val (.int z4), .val (.int 2), .val (.int kA), .val (.int kB), .val (.int kC), .val (.double (own_el kA z2)), .second, .val (.double (own_el kB z3)), .second, .val (.double (own_el kC z4)), .second, .val (.ref b12), .val (.int 0)] []))
        refine own_to (fun _ kont => XS.aload X14.here hx rfl (hb hby at_170) rfl rfl kont) ?_
        show own_Ends _ _ _ _ (T14.setTop (mkF m 172 #[.val (.int z1), .val (.int z2), .val (.int z3), .val (.int z4), .val (.int 2), .val (.int kA), .val (.int kB), .val (.int kC), .val (.double (own_el kA z2)), .second, .val (.double (own_el kB z3)), .second, .val (.double (own_el kC z4)), .second, .val (.ref b12), .val (.int 0)] [(.ref b12)]))
        obtain ⟨_, _, ⟨T18, L18, k18, n18⟩, -, X18, ⟨Lc18, hQ18, l18, y18, z18⟩, st18⟩ := Jvm.LawKit.callS X14 hx (y := oM1) hown (mvT hZ (ow5 hw)) (mvT hZ (ow6 hw)) (mvT hZ (ow7 hw)) (mvT hZ (ow8 hw)) (by decide) (backOf (W := 0) (rmF21 l Z a0 hw [] b12 k12 (own_el kA z2) (own_el kB z3) h14 n0 O14 Vs14 (own_el_fin hc136_15) (own_el_inf hc148_17)) hZ (ow8 hw) (ow7 hw) (by decide) (by decide)) (g := (mkF m 172 #[.val (.int z1), .val (.int z2), .val (.int z3), .val (.int z4), .val (.int (2 : Int32)), .val (.int kA), .val (.int kB), .val (.int kC), .val (.double (own_el kA z2)), .second, .val (.double (own_el kB z3)), .second, .val (.double (own_el kC z4)), .second, .val (.ref b12), .val (.int (0 : Int32))] [(.ref b12)])) rfl (by rw [hml]; rfl) (argsL := [(.ref b12)]) (rest := []) (lenOf pd_1 rfl) rfl (by show 2 * 0 + _ ≤ _; exact Nat.le_of_eq rfl) (hb hby at_172) (fun _ _ => ⟨rfl, e14, (own_le rfl), (own_le rfl)⟩)
        dsimp only [Pt.U, Pt.locs, Pt.cells, Pt.slots] at X18 l18 y18 z18 st18 hQ18
        subst y18 z18
        obtain ⟨rfl, N18q, E18⟩ := hQ18
        have N18 := own_fr l18 N14 N18q
        refine own_to st18 ?_
        show own_Ends _ _ _ _ (T18.setTop (mkF m 175 #[.val (.int z1), .val (.int z2), .val (.int z3), .val (.int z4), .val (.int 2), .val (.int kA), .val (.int kB), .val (.int kC), .val (.double (own_el kA z2)), .second, .val (.double (own_el kB z3)), .second, .val (.double (own_el kC z4)), .second, .val (.ref b12), .val (.int 0)] [(.int 0)]))
        refine own_to (fun _ kont => XS.iload X18.here hx rfl (hb hby at_175) rfl kont) ?_
        show own_Ends _ _ _ _ (T18.setTop (mkF m 177 #[.val (.int z1), .val (.int z2), .val (.int z3), .val (.int z4), .val (.int 2), .val (.int kA), .val (.int kB), .val (.int kC), .val (.double (own_el kA z2)), .second, .val (.double (own_el kB z3)), .second, .val (.double (own_el kC z4)), .second, .val (.ref b12), .val (.int 0)] [(.int 0), (.int 0)]))
        refine own_to (fun _ kont => XS.icmpNo X18.here hx rfl (hb hby at_177) rfl (teq (by decide)).2 kont) ?_
        show own_Ends _ _ _ _ (T18.setTop (mkF m 180 #[.val (.int z1), .val (.int z2), .val (.int z3), .val (.int z4), .val (.int 2), .val (.int kA), .val (.int kB), .val (.int kC), .val (.double (own_el kA z2)), .second, .val (.double (own_el kB z3)), .second, .val (.double (own_el kC z4)), .second, .val (.ref b12), .val (.int 0)] []))
        refine own_to (fun _ kont => XS.iconst X18.here hx rfl (hb hby at_180) kont) ?_
        show own_Ends _ _ _ _ (T18.setTop (mkF m 181 #[.val (.int z1), .val (.int z2), .val (.int z3), .val (.int z4), .val (.int 2), .val (.int kA), .val (.int kB), .val (.int kC), .val (.double (own_el kA z2)), .second, .val (.double (own_el kB z3)), .second, .val (.double (own_el kC z4)), .second, .val (.ref b12), .val (.int 0)] [(.int 1)]))
        refine own_to (fun _ kont => XS.goto X18.here hx rfl (pc0 := 181) (pc' := 185) rfl (hb hby at_181) (by decide) (by decide) kont) ?_
        show own_Ends _ _ _ _ (T18.setTop (mkF m 185 #[.val (.int z1), .val (.int z2), .val (.int z3), .val (.int z4), .val (.int 2), .val (.int kA), .val (.int kB), .val (.int kC), .val (.double (own_el kA z2)), .second, .val (.double (own_el kB z3)), .second, .val (.double (own_el kC z4)), .second, .val (.ref b12), .val (.int 0)] [(.int 1)]))
        refine own_leave X18 (v := some (.int (1 : Int32))) (fun h => by rw [Bd.returns] at h; cases h) ?_ (by decide) (by decide) (fun fs hr => retN X18 hx (t := .boolean) Bd.returns (by simp) (hb hby at_185) hr)
        show Q_rm0 Z z1 z2 z3 z4 h0 n0 _ T18.heap _
        rw [E18]
        exact ⟨rfl, N18⟩
      · -- pc 148: not kB = (2 : Int32)
        refine own_to (fun _ kont => XS.icmpNo X14.here hx rfl (hb hby at_148) rfl (feq hc148_17).1 kont) ?_
        show own_Ends _ _ _ _ (T14.setTop (mkF m 151 #[.val (.int z1), .val (.int z2), .val (.int z3), .val (.int z4), .val (.int 2), .val (.int kA), .val (.int kB), .val (.int kC), .val (.double (own_el kA z2)), .second, .val (.double (own_el kB z3)), .second, .val (.double (own_el kC z4)), .second, .val (.ref b12), .unset] []))
        refine own_to (fun _ kont => XS.iload X14.here hx rfl (hb hby at_151) rfl kont) ?_
        show own_Ends _ _ _ _ (T14.setTop (mkF m 153 #[.val (.int z1), .val (.int z2), .val (.int z3), .val (.int z4), .val (.int 2), .val (.int kA), .val (.int kB), .val (.int kC), .val (.double (own_el kA z2)), .second, .val (.double (own_el kB z3)), .second, .val (.double (own_el kC z4)), .second, .val (.ref b12), .unset] [(.int 2)]))
        refine own_to (fun _ kont => XS.iconst X14.here hx rfl (hb hby at_153) kont) ?_
        show own_Ends _ _ _ _ (T14.setTop (mkF m 154 #[.val (.int z1), .val (.int z2), .val (.int z3), .val (.int z4), .val (.int 2), .val (.int kA), .val (.int kB), .val (.int kC), .val (.double (own_el kA z2)), .second, .val (.double (own_el kB z3)), .second, .val (.double (own_el kC z4)), .second, .val (.ref b12), .unset] [(.int 3), (.int 2)]))
        refine own_to (fun _ kont => XS.icmpYes X14.here hx rfl (pc0 := 154) (pc' := 163) rfl (hb hby at_154) rfl (tlt (by decide)).1 (by decide) (by decide) kont) ?_
        show own_Ends _ _ _ _ (T14.setTop (mkF m 163 #[.val (.int z1), .val (.int z2), .val (.int z3), .val (.int z4), .val (.int 2), .val (.int kA), .val (.int kB), .val (.int kC), .val (.double (own_el kA z2)), .second, .val (.double (own_el kB z3)), .second, .val (.double (own_el kC z4)), .second, .val (.ref b12), .unset] []))
        refine own_to (fun _ kont => XS.iconst X14.here hx rfl (hb hby at_163) kont) ?_
        show own_Ends _ _ _ _ (T14.setTop (mkF m 164 #[.val (.int z1), .val (.int z2), .val (.int z3), .val (.int z4), .val (.int 2), .val (.int kA), .val (.int kB), .val (.int kC), .val (.double (own_el kA z2)), .second, .val (.double (own_el kB z3)), .second, .val (.double (own_el kC z4)), .second, .val (.ref b12), .unset] [(.int 1)]))
        refine own_to (fun _ kont => XS.goto X14.here hx rfl (pc0 := 164) (pc' := 168) rfl (hb hby at_164) (by decide) (by decide) kont) ?_
        show own_Ends _ _ _ _ (T14.setTop (mkF m 168 #[.val (.int z1), .val (.int z2), .val (.int z3), .val (.int z4), .val (.int 2), .val (.int kA), .val (.int kB), .val (.int kC), .val (.double (own_el kA z2)), .second, .val (.double (own_el kB z3)), .second, .val (.double (own_el kC z4)), .second, .val (.ref b12), .unset] [(.int 1)]))
        refine own_to (fun _ kont => XS.istore X14.here hx rfl (hb hby at_168) rfl (l' := #[.val (.int z1), .val (.int z2), .val (.int z3), .val (.int z4), .val (.int (2 : Int32)), .val (.int kA), .val (.int kB), .val (.int kC), .val (.double (own_el kA z2)), .second, .val (.double (own_el kB z3)), .second, .val (.double (own_el kC z4)), .second, .val (.ref b12), .val (.int (1 : Int32))]) rfl kont) ?_
        show own_Ends _ _ _ _ (T14.setTop (mkF m 170 #[.val (.int z1), .val (.int z2), .val (.int z3), .val (.int z4), .val (.int 2), .val (.int kA), .val (.int kB), .val (.int kC), .val (.double (own_el kA z2)), .second, .val (.double (own_el kB z3)), .second, .val (.double (own_el kC z4)), .second, .val (.ref b12), .val (.int 1)] []))
        refine own_to (fun _ kont => XS.aload X14.here hx rfl (hb hby at_170) rfl rfl kont) ?_
        show own_Ends _ _ _ _ (T14.setTop (mkF m 172 #[.val (.int z1), .val (.int z2), .val (.int z3), .val (.int z4), .val (.int 2), .val (.int kA), .val (.int kB), .val (.int kC), .val (.double (own_el kA z2)), .second, .val (.double (own_el kB z3)), .second, .val (.double (own_el kC z4)), .second, .val (.ref b12), .val (.int 1)] [(.ref b12)]))
        obtain ⟨_, _, ⟨T19, L19, k19, n19⟩, -, X19, ⟨Lc19, hQ19, l19, y19, z19⟩, st19⟩ := Jvm.LawKit.callS X14 hx (y := oM1) hown (mvT hZ (ow5 hw)) (mvT hZ (ow6 hw)) (mvT hZ (ow7 hw)) (mvT hZ (ow8 hw)) (by decide) (backOf (W := 0) (rmF22 l Z a0 hw [] b12 k12 (own_el kA z2) (own_el kB z3) h14 n0 O14 Vs14 (own_el_fin hc136_15) (own_el_fin hc148_17)) hZ (ow8 hw) (ow7 hw) (by decide) (by decide)) (g := (mkF m 172 #[.val (.int z1), .val (.int z2), .val (.int z3), .val (.int z4), .val (.int (2 : Int32)), .val (.int kA), .val (.int kB), .val (.int kC), .val (.double (own_el kA z2)), .second, .val (.double (own_el kB z3)), .second, .val (.double (own_el kC z4)), .second, .val (.ref b12), .val (.int (1 : Int32))] [(.ref b12)])) rfl (by rw [hml]; rfl) (argsL := [(.ref b12)]) (rest := []) (lenOf pd_1 rfl) rfl (by show 2 * 0 + _ ≤ _; exact Nat.le_of_eq rfl) (hb hby at_172) (fun _ _ => ⟨rfl, e14, (own_le rfl), (own_le rfl)⟩)
        dsimp only [Pt.U, Pt.locs, Pt.cells, Pt.slots] at X19 l19 y19 z19 st19 hQ19
        subst y19 z19
        obtain ⟨rfl, N19q, E19⟩ := hQ19
        have N19 := own_fr l19 N14 N19q
        refine own_to st19 ?_
        show own_Ends _ _ _ _ (T19.setTop (mkF m 175 #[.val (.int z1), .val (.int z2), .val (.int z3), .val (.int z4), .val (.int 2), .val (.int kA), .val (.int kB), .val (.int kC), .val (.double (own_el kA z2)), .second, .val (.double (own_el kB z3)), .second, .val (.double (own_el kC z4)), .second, .val (.ref b12), .val (.int 1)] [(.int 1)]))
        refine own_to (fun _ kont => XS.iload X19.here hx rfl (hb hby at_175) rfl kont) ?_
        show own_Ends _ _ _ _ (T19.setTop (mkF m 177 #[.val (.int z1), .val (.int z2), .val (.int z3), .val (.int z4), .val (.int 2), .val (.int kA), .val (.int kB), .val (.int kC), .val (.double (own_el kA z2)), .second, .val (.double (own_el kB z3)), .second, .val (.double (own_el kC z4)), .second, .val (.ref b12), .val (.int 1)] [(.int 1), (.int 1)]))
        refine own_to (fun _ kont => XS.icmpNo X19.here hx rfl (hb hby at_177) rfl (teq (by decide)).2 kont) ?_
        show own_Ends _ _ _ _ (T19.setTop (mkF m 180 #[.val (.int z1), .val (.int z2), .val (.int z3), .val (.int z4), .val (.int 2), .val (.int kA), .val (.int kB), .val (.int kC), .val (.double (own_el kA z2)), .second, .val (.double (own_el kB z3)), .second, .val (.double (own_el kC z4)), .second, .val (.ref b12), .val (.int 1)] []))
        refine own_to (fun _ kont => XS.iconst X19.here hx rfl (hb hby at_180) kont) ?_
        show own_Ends _ _ _ _ (T19.setTop (mkF m 181 #[.val (.int z1), .val (.int z2), .val (.int z3), .val (.int z4), .val (.int 2), .val (.int kA), .val (.int kB), .val (.int kC), .val (.double (own_el kA z2)), .second, .val (.double (own_el kB z3)), .second, .val (.double (own_el kC z4)), .second, .val (.ref b12), .val (.int 1)] [(.int 1)]))
        refine own_to (fun _ kont => XS.goto X19.here hx rfl (pc0 := 181) (pc' := 185) rfl (hb hby at_181) (by decide) (by decide) kont) ?_
        show own_Ends _ _ _ _ (T19.setTop (mkF m 185 #[.val (.int z1), .val (.int z2), .val (.int z3), .val (.int z4), .val (.int 2), .val (.int kA), .val (.int kB), .val (.int kC), .val (.double (own_el kA z2)), .second, .val (.double (own_el kB z3)), .second, .val (.double (own_el kC z4)), .second, .val (.ref b12), .val (.int 1)] [(.int 1)]))
        refine own_leave X19 (v := some (.int (1 : Int32))) (fun h => by rw [Bd.returns] at h; cases h) ?_ (by decide) (by decide) (fun fs hr => retN X19 hx (t := .boolean) Bd.returns (by simp) (hb hby at_185) hr)
        show Q_rm0 Z z1 z2 z3 z4 h0 n0 _ T19.heap _
        rw [E19]
        exact ⟨rfl, N19⟩
  · skip
    show own_Ends _ _ _ _ (T3.setTop (mkF m 51 #[.val (.int z1), .val (.int z2), .val (.int z3), .val (.int z4), .val (.int 3), .val (.int kA), .val (.int kB), .val (.int kC), .val (.double (own_el kA z2)), .second, .val (.double (own_el kB z3)), .second, .val (.double (own_el kC z4)), .second, .unset, .unset] []))
    refine own_to (fun _ kont => XS.iload X3.here hx rfl (hb hby at_51) rfl kont) ?_
    show own_Ends _ _ _ _ (T3.setTop (mkF m 53 #[.val (.int z1), .val (.int z2), .val (.int z3), .val (.int z4), .val (.int 3), .val (.int kA), .val (.int kB), .val (.int kC), .val (.double (own_el kA z2)), .second, .val (.double (own_el kB z3)), .second, .val (.double (own_el kC z4)), .second, .unset, .unset] [(.int 3)]))
    refine own_to (fun _ kont => XS.ifYes X3.here hx rfl (pc0 := 53) (pc' := 64) rfl (hb hby at_53) rfl ((if0 _ _).trans (feq (by decide)).2) (by decide) (by decide) kont) ?_
    show own_Ends _ _ _ _ (T3.setTop (mkF m 64 #[.val (.int z1), .val (.int z2), .val (.int z3), .val (.int z4), .val (.int 3), .val (.int kA), .val (.int kB), .val (.int kC), .val (.double (own_el kA z2)), .second, .val (.double (own_el kB z3)), .second, .val (.double (own_el kC z4)), .second, .unset, .unset] []))
    refine own_to (fun _ kont => XS.iload X3.here hx rfl (hb hby at_64) rfl kont) ?_
    show own_Ends _ _ _ _ (T3.setTop (mkF m 66 #[.val (.int z1), .val (.int z2), .val (.int z3), .val (.int z4), .val (.int 3), .val (.int kA), .val (.int kB), .val (.int kC), .val (.double (own_el kA z2)), .second, .val (.double (own_el kB z3)), .second, .val (.double (own_el kC z4)), .second, .unset, .unset] [(.int 3)]))
    refine own_to (fun _ kont => XS.iconst X3.here hx rfl (hb hby at_66) kont) ?_
    show own_Ends _ _ _ _ (T3.setTop (mkF m 67 #[.val (.int z1), .val (.int z2), .val (.int z3), .val (.int z4), .val (.int 3), .val (.int kA), .val (.int kB), .val (.int kC), .val (.double (own_el kA z2)), .second, .val (.double (own_el kB z3)), .second, .val (.double (own_el kC z4)), .second, .unset, .unset] [(.int 1), (.int 3)]))
    refine own_to (fun _ kont => XS.icmpYes X3.here hx rfl (pc0 := 67) (pc' := 83) rfl (hb hby at_67) rfl (feq (by decide)).2 (by decide) (by decide) kont) ?_
    show own_Ends _ _ _ _ (T3.setTop (mkF m 83 #[.val (.int z1), .val (.int z2), .val (.int z3), .val (.int z4), .val (.int 3), .val (.int kA), .val (.int kB), .val (.int kC), .val (.double (own_el kA z2)), .second, .val (.double (own_el kB z3)), .second, .val (.double (own_el kC z4)), .second, .unset, .unset] []))
    refine own_to (fun _ kont => XS.iload X3.here hx rfl (hb hby at_83) rfl kont) ?_
    show own_Ends _ _ _ _ (T3.setTop (mkF m 85 #[.val (.int z1), .val (.int z2), .val (.int z3), .val (.int z4), .val (.int 3), .val (.int kA), .val (.int kB), .val (.int kC), .val (.double (own_el kA z2)), .second, .val (.double (own_el kB z3)), .second, .val (.double (own_el kC z4)), .second, .unset, .unset] [(.int 3)]))
    refine own_to (fun _ kont => XS.iconst X3.here hx rfl (hb hby at_85) kont) ?_
    show own_Ends _ _ _ _ (T3.setTop (mkF m 86 #[.val (.int z1), .val (.int z2), .val (.int z3), .val (.int z4), .val (.int 3), .val (.int kA), .val (.int kB), .val (.int kC), .val (.double (own_el kA z2)), .second, .val (.double (own_el kB z3)), .second, .val (.double (own_el kC z4)), .second, .unset, .unset] [(.int 2), (.int 3)]))
    refine own_to (fun _ kont => XS.icmpYes X3.here hx rfl (pc0 := 86) (pc' := 107) rfl (hb hby at_86) rfl (feq (by decide)).2 (by decide) (by decide) kont) ?_
    show own_Ends _ _ _ _ (T3.setTop (mkF m 107 #[.val (.int z1), .val (.int z2), .val (.int z3), .val (.int z4), .val (.int 3), .val (.int kA), .val (.int kB), .val (.int kC), .val (.double (own_el kA z2)), .second, .val (.double (own_el kB z3)), .second, .val (.double (own_el kC z4)), .second, .unset, .unset] []))
    refine own_to (fun _ kont => XS.iconst X3.here hx rfl (hb hby at_107) kont) ?_
    show own_Ends _ _ _ _ (T3.setTop (mkF m 108 #[.val (.int z1), .val (.int z2), .val (.int z3), .val (.int z4), .val (.int 3), .val (.int kA), .val (.int kB), .val (.int kC), .val (.double (own_el kA z2)), .second, .val (.double (own_el kB z3)), .second, .val (.double (own_el kC z4)), .second, .unset, .unset] [(.int 3)]))
    obtain ⟨T20, h20, k20, X20, e20, E20, A20, st20⟩ := newP X3 hx hZ (aty := .double) (ow4 hw) E3 (g := (mkF m 108 #[.val (.int z1), .val (.int z2), .val (.int z3), .val (.int z4), .val (.int (3 : Int32)), .val (.int kA), .val (.int kB), .val (.int kC), .val (.double (own_el kA z2)), .second, .val (.double (own_el kB z3)), .second, .val (.double (own_el kC z4)), .second, .unset, .unset] [(.int (3 : Int32))])) rfl (hb hby at_108) rfl (by decide) (cap := 3) (by decide) (by decide) (by decide) (by decide)
    obtain ⟨b20, g20⟩ : ∃ z, z = h0.size := ⟨_, rfl⟩
    rw [← g20] at A20 st20
    have g_b20 : n0 ≤ b20 := Nat.le_trans (own_old_le O0) (Nat.le_of_eq g20.symm)
    refine own_to st20 ?_
    have O20 := O0.ext E20
    have Vn20 : Arv Z h20 b20 k20 .double (3 : Int32) [(.double (FP.l2d 0)), (.double (FP.l2d 0)), (.double (FP.l2d 0))] (.double (FP.l2d 0)) := (Arv.newD A20 (by decide)).pad (pad_rep [] (.double (FP.l2d 0)) 3)
    show own_Ends _ _ _ _ (T20.setTop (mkF m 110 #[.val (.int z1), .val (.int z2), .val (.int z3), .val (.int z4), .val (.int 3), .val (.int kA), .val (.int kB), .val (.int kC), .val (.double (own_el kA z2)), .second, .val (.double (own_el kB z3)), .second, .val (.double (own_el kC z4)), .second, .unset, .unset] [(.ref b20)]))
    refine own_to (fun _ kont => XS.dup X20.here hx rfl (hb hby at_110) rfl rfl kont) ?_
    show own_Ends _ _ _ _ (T20.setTop (mkF m 111 #[.val (.int z1), .val (.int z2), .val (.int z3), .val (.int z4), .val (.int 3), .val (.int kA), .val (.int kB), .val (.int kC), .val (.double (own_el kA z2)), .second, .val (.double (own_el kB z3)), .second, .val (.double (own_el kC z4)), .second, .unset, .unset] [(.ref b20), (.ref b20)]))
    refine own_to (fun _ kont => XS.iconst X20.here hx rfl (hb hby at_111) kont) ?_
    show own_Ends _ _ _ _ (T20.setTop (mkF m 112 #[.val (.int z1), .val (.int z2), .val (.int z3), .val (.int z4), .val (.int 3), .val (.int kA), .val (.int kB), .val (.int kC), .val (.double (own_el kA z2)), .second, .val (.double (own_el kB z3)), .second, .val (.double (own_el kC z4)), .second, .unset, .unset] [(.int 0), (.ref b20), (.ref b20)]))
    refine own_to (fun _ kont => XS.dload X20.here hx rfl (hb hby at_112) rfl kont) ?_
    show own_Ends _ _ _ _ (T20.setTop (mkF m 114 #[.val (.int z1), .val (.int z2), .val (.int z3), .val (.int z4), .val (.int 3), .val (.int kA), .val (.int kB), .val (.int kC), .val (.double (own_el kA z2)), .second, .val (.double (own_el kB z3)), .second, .val (.double (own_el kC z4)), .second, .unset, .unset] [(.double (own_el kA z2)), (.int 0), (.ref b20), (.ref b20)]))
    obtain ⟨cl21, Ar21, q21, S21, M21, H21, G21⟩ := id Vn20
    have hin21 : ¬ ((0 : Int32) < 0 ∨ cl21.slots.size ≤ ((0 : Int32)).toNatClampNeg) := inb_of S21 ⟨by decide, by decide⟩
    obtain ⟨T21, h21, X21, e21, W21, st21⟩ := stD X20 hx hZ e20 Ar21 (j := (0 : Int32)) hin21 (g := (mkF m 114 #[.val (.int z1), .val (.int z2), .val (.int z3), .val (.int z4), .val (.int (3 : Int32)), .val (.int kA), .val (.int kB), .val (.int kC), .val (.double (own_el kA z2)), .second, .val (.double (own_el kB z3)), .second, .val (.double (own_el kC z4)), .second, .unset, .unset] [(.double (own_el kA z2)), (.int (0 : Int32)), (.ref b20), (.ref b20)])) rfl rfl (hb hby at_114)
    have Vs21 : Arv Z h21 b20 k20 .double (3 : Int32) [(.double (own_el kA z2)), (.double (FP.l2d 0)), (.double (FP.l2d 0))] (.double (FP.l2d 0)) := Arv.set Ar21 q21 S21 M21 H21 G21 rfl W21 0 rfl (own_lt rfl)
    refine own_to st21 ?_
    have O21 := O20.wr W21 g_b20
    have N21 := Fr.snoc X21 N3 g_b20
    show own_Ends _ _ _ _ (T21.setTop (mkF m 115 #[.val (.int z1), .val (.int z2), .val (.int z3), .val (.int z4), .val (.int 3), .val (.int kA), .val (.int kB), .val (.int kC), .val (.double (own_el kA z2)), .second, .val (.double (own_el kB z3)), .second, .val (.double (own_el kC z4)), .second, .unset, .unset] [(.ref b20)]))
    refine own_to (fun _ kont => XS.dup X21.here hx rfl (hb hby at_115) rfl rfl kont) ?_
    show own_Ends _ _ _ _ (T21.setTop (mkF m 116 #[.val (.int z1), .val (.int z2), .val (.int z3), .val (.int z4), .val (.int 3), .val (.int kA), .val (.int kB), .val (.int kC), .val (.double (own_el kA z2)), .second, .val (.double (own_el kB z3)), .second, .val (.double (own_el kC z4)), .second, .unset, .unset] [(.ref b20), (.ref b20)]))
    refine own_to (fun _ kont => XS.iconst X21.here hx rfl (hb hby at_116) kont) ?_
    show own_Ends _ _ _ _ (T21.setTop (mkF m 117 #[.val (.int z1), .val (.int z2), .val (.int z3), .val (.int z4), .val (.int 3), .val (.int kA), .val (.int kB), .val (.int kC), .val (.double (own_el kA z2)), .second, .val (.double (own_el kB z3)), .second, .val (.double (own_el kC z4)), .second, .unset, .unset] [(.int 1), (.ref b20), (.ref b20)]))
    refine own_to (fun _ kont => XS.dload X21.here hx rfl (hb hby at_117) rfl kont) ?_
    show own_Ends _ _ _ _ (T21.setTop (mkF m 119 #[.val (.int z1), .val (.int z2), .val (.int z3), .val (.int z4), .val (.int 3), .val (.int kA), .val (.int kB), .val (.int kC), .val (.double (own_el kA z2)), .second, .val (.double (own_el kB z3)), .second, .val (.double (own_el kC z4)), .second, .unset, .unset] [(.double (own_el kB z3)), (.int 1), (.ref b20), (.ref b20)]))
    obtain ⟨cl22, Ar22, q22, S22, M22, H22, G22⟩ := id Vs21
    have hin22 : ¬ ((1 : Int32) < 0 ∨ cl22.slots.size ≤ ((1 : Int32)).toNatClampNeg) := inb_of S22 ⟨by decide, by decide⟩
    obtain ⟨T22, h22, X22, e22, W22, st22⟩ := stD X21 hx hZ e21 Ar22 (j := (1 : Int32)) hin22 (g := (mkF m 119 #[.val (.int z1), .val (.int z2), .val (.int z3), .val (.int z4), .val (.int (3 : Int32)), .val (.int kA), .val (.int kB), .val (.int kC), .val (.double (own_el kA z2)), .second, .val (.double (own_el kB z3)), .second, .val (.double (own_el kC z4)), .second, .unset, .unset] [(.double (own_el kB z3)), (.int (1 : Int32)), (.ref b20), (.ref b20)])) rfl rfl (hb hby at_119)
    have Vs22 : Arv Z h22 b20 k20 .double (3 : Int32) [(.double (own_el kA z2)), (.double (own_el kB z3)), (.double (FP.l2d 0))] (.double (FP.l2d 0)) := Arv.set Ar22 q22 S22 M22 H22 G22 rfl W22 1 rfl (own_lt rfl)
    refine own_to st22 ?_
    have O22 := O21.wr W22 g_b20
    have N22 := Fr.snoc X22 N21 g_b20
    show own_Ends _ _ _ _ (T22.setTop (mkF m 120 #[.val (.int z1), .val (.int z2), .val (.int z3), .val (.int z4), .val (.int 3), .val (.int kA), .val (.int kB), .val (.int kC), .val (.double (own_el kA z2)), .second, .val (.double (own_el kB z3)), .second, .val (.double (own_el kC z4)), .second, .unset, .unset] [(.ref b20)]))
    refine own_to (fun _ kont => XS.dup X22.here hx rfl (hb hby at_120) rfl rfl kont) ?_
    show own_Ends _ _ _ _ (T22.setTop (mkF m 121 #[.val (.int z1), .val (.int z2), .val (.int z3), .val (.int z4), .val (.int 3), .val (.int kA), .val (.int kB), .val (.int kC), .val (.double (own_el kA z2)), .second, .val (.double (own_el kB z3)), .second, .val (.double (own_el kC z4)), .second, .unset, .unset] [(.ref b20), (.ref b20)]))
    refine own_to (fun _ kont => XS.iconst X22.here hx rfl (hb hby at_121) kont) ?_
    show own_Ends _ _ _ _ (T22.setTop (mkF m 122 #[.val (.int z1), .val (.int z2), .val (.int z3), .val (.int z4), .val (.int 3), .val (.int kA), .val (.int kB), .val (.int kC), .val (.double (own_el kA z2)), .second, .val (.double (own_el kB z3)), .second, .val (.double (own_el kC z4)), .second, .unset, .unset] [(.int 2), (.ref b20), (.ref b20)]))
    refine own_to (fun _ kont => XS.dload X22.here hx rfl (hb hby at_122) rfl kont) ?_
    show own_Ends _ _ _ _ (T22.setTop (mkF m 124 #[.val (.int z1), .val (.int z2), .val (.int z3), .val (.int z4), .val (.int 3), .val (.int kA), .val (.int kB), .val (.int kC), .val (.double (own_el kA z2)), .second, .val (.double (own_el kB z3)), .second, .val (.double (own_el kC z4)), .second, .unset, .unset] [(.double (own_el kC z4)), (.int 2), (.ref b20), (.ref b20)]))
    obtain ⟨cl23, Ar23, q23, S23, M23, H23, G23⟩ := id Vs22
    have hin23 : ¬ ((2 : Int32) < 0 ∨ cl23.slots.size ≤ ((2 : Int32)).toNatClampNeg) := inb_of S23 ⟨by decide, by decide⟩
    obtain ⟨T23, h23, X23, e23, W23, st23⟩ := stD X22 hx hZ e22 Ar23 (j := (2 : Int32)) hin23 (g := (mkF m 124 #[.val (.int z1), .val (.int z2), .val (.int z3), .val (.int z4), .val (.int (3 : Int32)), .val (.int kA), .val (.int kB), .val (.int kC), .val (.double (own_el kA z2)), .second, .val (.double (own_el kB z3)), .second, .val (.double (own_el kC z4)), .second, .unset, .unset] [(.double (own_el kC z4)), (.int (2 : Int32)), (.ref b20), (.ref b20)])) rfl rfl (hb hby at_124)
    have Vs23 : Arv Z h23 b20 k20 .double (3 : Int32) [(.double (own_el kA z2)), (.double (own_el kB z3)), (.double (own_el kC z4))] (.double (FP.l2d 0)) := Arv.set Ar23 q23 S23 M23 H23 G23 rfl W23 2 rfl (own_lt rfl)
    refine own_to st23 ?_
    have O23 := O22.wr W23 g_b20
    have N23 := Fr.snoc X23 N22 g_b20
    show own_Ends _ _ _ _ (T23.setTop (mkF m 125 #[.val (.int z1), .val (.int z2), .val (.int z3), .val (.int z4), .val (.int 3), .val (.int kA), .val (.int kB), .val (.int kC), .val (.double (own_el kA z2)), .second, .val (.double (own_el kB z3)), .second, .val (.double (own_el kC z4)), .second, .unset, .unset] [(.ref b20)]))
    refine own_to (fun _ kont => XS.astore X23.here hx rfl (hb hby at_125) rfl rfl (l' := #[.val (.int z1), .val (.int z2), .val (.int z3), .val (.int z4), .val (.int (3 : Int32)), .val (.int kA), .val (.int kB), .val (.int kC), .val (.double (own_el kA z2)), .second, .val (.double (own_el kB z3)), .second, .val (.double (own_el kC z4)), .second, .val (.ref b20), .unset]) rfl kont) ?_
    show own_Ends _ _ _ _ (T23.setTop (mkF m 127 #[.val (.int z1), .val (.int z2), .val (.int z3), .val (.int z4), .val (.int 3), .val (.int kA), .val (.int kB), .val (.int kC), .val (.double (own_el kA z2)), .second, .val (.double (own_el kB z3)), .second, .val (.double (own_el kC z4)), .second, .val (.ref b20), .unset] []))
    refine own_to (fun _ kont => XS.iload X23.here hx rfl (hb hby at_127) rfl kont) ?_
    show own_Ends _ _ _ _ (T23.setTop (mkF m 129 #[.val (.int z1), .val (.int z2), .val (.int z3), .val (.int z4), .val (.int 3), .val (.int kA), .val (.int kB), .val (.int kC), .val (.double (own_el kA z2)), .second, .val (.double (own_el kB z3)), .second, .val (.double (own_el kC z4)), .second, .val (.ref b20), .unset] [(.int 3)]))
    refine own_to (fun _ kont => XS.iconst X23.here hx rfl (hb hby at_129) kont) ?_
    show own_Ends _ _ _ _ (T23.setTop (mkF m 130 #[.val (.int z1), .val (.int z2), .val (.int z3), .val (.int z4), .val (.int 3), .val (.int kA), .val (.int kB), .val (.int kC), .val (.double (own_el kA z2)), .second, .val (.double (own_el kB z3)), .second, .val (.double (own_el kC z4)), .second, .val (.ref b20), .unset] [(.int 1), (.int 3)]))
    refine own_to (fun _ kont => XS.icmpNo X23.here hx rfl (hb hby at_130) rfl (flt (by decide)).1 kont) ?_
    show own_Ends _ _ _ _ (T23.setTop (mkF m 133 #[.val (.int z1), .val (.int z2), .val (.int z3), .val (.int z4), .val (.int 3), .val (.int kA), .val (.int kB), .val (.int kC), .val (.double (own_el kA z2)), .second, .val (.double (own_el kB z3)), .second, .val (.double (own_el kC z4)), .second, .val (.ref b20), .unset] []))
    refine own_to (fun _ kont => XS.iload X23.here hx rfl (hb hby at_133) rfl kont) ?_
    show own_Ends _ _ _ _ (T23.setTop (mkF m 135 #[.val (.int z1), .val (.int z2), .val (.int z3), .val (.int z4), .val (.int 3), .val (.int kA), .val (.int kB), .val (.int kC), .val (.double (own_el kA z2)), .second, .val (.double (own_el kB z3)), .second, .val (.double (own_el kC z4)), .second, .val (.ref b20), .unset] [(.int kA)]))
    refine own_to (fun _ kont => XS.iconst X23.here hx rfl (hb hby at_135) kont) ?_
    show own_Ends _ _ _ _ (T23.setTop (mkF m 136 #[.val (.int z1), .val (.int z2), .val (.int z3), .val (.int z4), .val (.int 3), .val (.int kA), .val (.int kB), .val (.int kC), .val (.double (own_el kA z2)), .second, .val (.double (own_el kB z3)), .second, .val (.double (own_el kC z4)), .second, .val (.ref b20), .unset] [(.int 2), (.int kA)]))
    by_cases hc136_24 : kA = (2 : Int32)
    · -- pc 136: kA = (2 : Int32)
      refine own_to (fun _ kont => XS.icmpYes X23.here hx rfl (pc0 := 136) (pc' := 167) rfl (hb hby at_136) rfl (teq hc136_24).1 (by decide) (by decide) kont) ?_
      show own_Ends _ _ _ _ (T23.setTop (mkF m 167 #[.val (.int z1), .val (.int z2), .val (.int z3), .val (.int z4), .val (.int 3), .val (.int kA), .val (.int kB), .val (.int kC), .val (.double (own_el kA z2)), .second, .val (.double (own_el kB z3)), .second, .val (.double (own_el kC z4)), .second, .val (.ref b20), .unset] []))
      refine own_to (fun _ kont => XS.iconst X23.here hx rfl (hb hby at_167) kont) ?_
      show own_Ends _ _ _ _ (T23.setTop (mkF m 168 #[.val (.int z1), .val (.int z2), .val (.int z3), .val (.int z4), .val (.int 3), .val (.int kA), .val (.int kB), .val (.int kC), .val (.double (own_el kA z2)), .second, .val (.double (own_el kB z3)), .second, .val (.double (own_el kC z4)), .second, .val (.ref b20), .unset] [(.int 0)]))
      refine own_to (fun _ kont => XS.istore X23.here hx rfl (hb hby at_168) rfl (l' := #[.val (.int z1), .val (.int z2), .val (.int z3), .val (.int z4), .val (.int (3 : Int32)), .val (.int kA), .val (.int kB), .val (.int kC), .val (.double (own_el kA z2)), .second, .val (.double (own_el kB z3)), .second, .val (.double (own_el kC z4)), .second, .val (.ref b20), .val (.int (0 : Int32))]) rfl kont) ?_
      show own_Ends _ _ _ _ (T23.setTop (mkF m 170 #[.val (.int z1), .val (.int z2), .val (.int z3), .val (.int z4), .val (.int 3), .val (.int kA), .val (.int kB), .val (.int kC), .val (.double (own_el kA z2)), .second, .val (.double (own_el kB z3)), .second, .val (.double (own_el kC z4)), .second, .val (.ref b20), .val (.int 0)] []))
      refine own_to (fun _ kont => XS.aload X23.here hx rfl (hb hby at_170) rfl rfl kont) ?_
      show own_Ends _ _ _ _ (T23.setTop (mkF m 172 #[.val (.int z1), .val (.int z2), .val (.int z3), .val (.int z4), .val (.int 3), .val (.int kA), .val (.int kB), .val (.int kC), .val (.double (own_el kA z2)), .second, .val (.double (own_el kB z3)), .second, .val (.double (own_el kC z4)), .second, .val (.ref b20), .val (.int 0)] [(.ref b20)]))
      obtain ⟨_, _, ⟨T25, L25, k25, n25⟩, -, X25, ⟨Lc25, hQ25, l25, y25, z25⟩, st25⟩ := Jvm.LawKit.callS X23 hx (y := oM1) hown (mvT hZ (ow5 hw)) (mvT hZ (ow6 hw)) (mvT hZ (ow7 hw)) (mvT hZ (ow8 hw)) (by decide) (backOf (W := 0) (rmF30 l Z a0 hw [] b20 k20 (own_el kA z2) (own_el kB z3) (own_el kC z4) h23 n0 O23 Vs23 (own_el_inf hc136_24)) hZ (ow8 hw) (ow7 hw) (by decide) (by decide)) (g := (mkF m 172 #[.val (.int z1), .val (.int z2), .val (.int z3), .val (.int z4), .val (.int (3 : Int32)), .val (.int kA), .val (.int kB), .val (.int kC), .val (.double (own_el kA z2)), .second, .val (.double (own_el kB z3)), .second, .val (.double (own_el kC z4)), .second, .val (.ref b20), .val (.int (0 : Int32))] [(.ref b20)])) rfl (by rw [hml]; rfl) (argsL := [(.ref b20)]) (rest := []) (lenOf pd_1 rfl) rfl (by show 2 * 0 + _ ≤ _; exact Nat.le_of_eq rfl) (hb hby at_172) (fun _ _ => ⟨rfl, e23, (own_le rfl), (own_le rfl)⟩)
      dsimp only [Pt.U, Pt.locs, Pt.cells, Pt.slots] at X25 l25 y25 z25 st25 hQ25
      subst y25 z25
      obtain ⟨rfl, N25q, E25⟩ := hQ25
      have N25 := own_fr l25 N23 N25q
      refine own_to st25 ?_
      show own_Ends _ _ _ _ (T25.setTop (mkF m 175 #[.val (.int z1), .val (.int z2), .val (.int z3), .val (.int z4), .val (.int 3), .val (.int kA), .val (.int kB), .val (.int kC), .val (.double (own_el kA z2)), .second, .val (.double (own_el kB z3)), .second, .val (.double (own_el kC z4)), .second, .val (.ref b20), .val (.int 0)] [(.int 0)]))
      refine own_to (fun _ kont => XS.iload X25.here hx rfl (hb hby at_175) rfl kont) ?_
      show own_Ends _ _ _ _ (T25.setTop (mkF m 177 #[.val (.int z1), .val (.int z2), .val (.int z3), .val (.int z4), .val (.int 3), .val (.int kA), .val (.int kB), .val (.int kC), .val (.double (own_el kA z2)), .second, .val (.double (own_el kB z3)), .second, .val (.double (own_el kC z4)), .second, .val (.ref b20), .val (.int 0)] [(.int 0), (.int 0)]))
      refine own_to (fun _ kont => XS.icmpNo X25.here hx rfl (hb hby at_177) rfl (teq (by decide)).2 kont) ?_
      show own_Ends _ _ _ _ (T25.setTop (mkF m 180 #[.val (.int z1), .val (.int z2), .val (.int z3), .val (.int z4), .val (.int 3), .val (.int kA), .val (.int kB), .val (.int kC), .val (.double (own_el kA z2)), .second, .val (.double (own_el kB z3)), .second, .val (.double (own_el kC z4)), .second, .val (.ref b20), .val (.int 0)] []))
      refine own_to (fun _ kont => XS.iconst X25.here hx rfl (hb hby at_180) kont) ?_
      show own_Ends _ _ _ _ (T25.setTop (mkF m 181 #[.val (.int z1), .val (.int z2), .val (.int z3), .val (.int z4), .val (.int 3), .val (.int kA), .val (.int kB), .val (.int kC), .val (.double (own_el kA z2)), .second, .val (.double (own_el kB z3)), .second, .val (.double (own_el kC z4)), .second, .val (.ref b20), .val (.int 0)] [(.int 1)]))
      refine own_to (fun _ kont => XS.goto X25.here hx rfl (pc0 := 181) (pc' := 185) rfl (hb hby at_181) (by decide) (by decide) kont) ?_
      show own_Ends _ _ _ _ (T25.setTop (mkF m 185 #[.val (.int z1), .val (.int z2), .val (.int z3), .val (.int z4), .val (.int 3), .val (.int kA), .val (.int kB), .val (.int kC), .val (.double (own_el kA z2)), .second, .val (.double (own_el kB z3)), .second, .val (.double (own_el kC z4)), .second, .val (.ref b20), .val (.int 0)] [(.int 1)]))
      refine own_leave X25 (v := some (.int (1 : Int32))) (fun h => by rw [Bd.returns] at h; cases h) ?_ (by decide) (by decide) (fun fs hr => retN X25 hx (t := .boolean) Bd.returns (by simp) (hb hby at_185) hr)
      show Q_rm0 Z z1 z2 z3 z4 h0 n0 _ T25.heap _
      rw [E25]
      exact ⟨rfl, N25⟩
    · -- pc 136: not kA = (2 : Int32)
      refine own_to (fun _ kont => XS.icmpNo X23.here hx rfl (hb hby at_136) rfl (feq hc136_24).1 kont) ?_
      show own_Ends _ _ _ _ (T23.setTop (mkF m 139 #[.val (.int z1), .val (.int z2), .val (.int z3), .val (.int z4), .val (.int 3), .val (.int kA), .val (.int kB), .val (.int kC), .val (.double (own_el kA z2)), .second, .val (.double (own_el kB z3)), .second, .val (.double (own_el kC z4)), .second, .val (.ref b20), .unset] []))
      refine own_to (fun _ kont => XS.iload X23.here hx rfl (hb hby at_139) rfl kont) ?_
      show own_Ends _ _ _ _ (T23.setTop (mkF m 141 #[.val (.int z1), .val (.int z2), .val (.int z3), .val (.int z4), .val (.int 3), .val (.int kA), .val (.int kB), .val (.int kC), .val (.double (own_el kA z2)), .second, .val (.double (own_el kB z3)), .second, .val (.double (own_el kC z4)), .second, .val (.ref b20), .unset] [(.int 3)]))
      refine own_to (fun _ kont => XS.iconst X23.here hx rfl (hb hby at_141) kont) ?_
      show own_Ends _ _ _ _ (T23.setTop (mkF m 142 #[.val (.int z1), .val (.int z2), .val (.int z3), .val (.int z4), .val (.int 3), .val (.int kA), .val (.int kB), .val (.int kC), .val (.double (own_el kA z2)), .second, .val (.double (own_el kB z3)), .second, .val (.double (own_el kC z4)), .second, .val (.ref b20), .unset] [(.int 2), (.int 3)]))
      refine own_to (fun _ kont => XS.icmpNo X23.here hx rfl (hb hby at_142) rfl (flt (by decide)).1 kont) ?_
      show own_Ends _ _ _ _ (T23.setTop (mkF m 145 #[.val (.int z1), .val (.int z2), .val (.int z3), .val (.int z4), .val (.int 3), .val (.int kA), .val (.int kB), .val (.int kC), .val (.double (own_el kA z2)), .second, .val (.double (own_el kB z3)), .second, .val (.double (own_el kC z4)), .second, .val (.ref b20), .unset] []))
      refine own_to (fun _ kont => XS.iload X23.here hx rfl (hb hby at_145) rfl kont) ?_
      show own_Ends _ _ _ _ (T23.setTop (mkF m 147 #[.val (.int z1), .val (.int z2), .val (.int z3), .val (.int z4), .val (.int 3), .val (.int kA), .val (.int kB), .val (.int kC), .val (.double (own_el kA z2)), .second, .val (.double (own_el kB z3)), .second, .val (.double (own_el kC z4)), .second, .val (.ref b20), .unset] [(.int kB)]))
      refine own_to (fun _ kont => XS.iconst X23.here hx rfl (hb hby at_147) kont) ?_
      show own_Ends _ _ _ _ (T23.setTop (mkF m 148 #[.val (.int z1), .val (.int z2), .val (.int z3), .val (.int z4), .val (.int 3), .val (.int kA), .val (.int kB), .val (.int kC), .val (.double (own_el kA z2)), .second, .val (.double (own_el kB z3)), .second, .val (.double (own_el kC z4)), .second, .val (.ref b20), .unset] [(.int 2), (.int kB)]))
      by_cases hc148_26 : kB = (2 : Int32)
      · -- pc 148: kB = (2 : Int32)
        refine own_to (fun _ kont => XS.icmpYes X23.here hx rfl (pc0 := 148) (pc' := 167) rfl (hb hby at_148) rfl (teq hc148_26).1 (by decide) (by decide) kont) ?_
        show own_Ends _ _ _ _ (T23.setTop (mkF m 167 #[.val (.int z1), .val (.int z2), .val (.int z3), .val (.int z4), .val (.int 3), .val (.int kA), .val (.int kB), .val (.int kC), .val (.double (own_el kA z2)), .second, .val (.double (own_el kB z3)), .second, .val (.double (own_el kC z4)), .second, .val (.ref b20), .unset] []))
        refine own_to (fun _ kont => XS.iconst X23.here hx rfl (hb hby at_167) kont) ?_
        show own_Ends _ _ _ _ (T23.setTop (mkF m 168 #[.val (.int z1), .val (.int z2), .val (.int z3), .val (.int z4), .val (.int 3), .val (.int kA), .val (.int kB), .val (.int kC), .val (.double (own_el kA z2)), .second, .val (.double (own_el kB z3)), .second, .val (.double (own_el kC z4)), .second, .val (.ref b20), .unset] [(.int 0)]))
        refine own_to (fun _ kont => XS.istore X23.here hx rfl (hb hby at_168) rfl (l' := #[.val (.int z1), .val (.int z2), .val (.int z3), .val (.int z4), .val (.int (3 : Int32)), .val (.int kA), .val (.int kB), .val (.int kC), .val (.double (own_el kA z2)), .second, .val (.double (own_el kB z3)), .second, .val (.double (own_el kC z4)), .second, .val (.ref b20), .val (.int (0 : Int32))]) rfl kont) ?_
        show own_Ends _ _ _ _ (T23.setTop (mkF m 170 #[.val (.int z1), .val (.int z2), .val (.int z3), .val (.int z4), .val (.int 3), .val (.int kA), .val (.int kB), .val (.int kC), .val (.double (own_el kA z2)), .second, .val (.double (own_el kB z3)), .second, .val (.double (own_el kC z4)), .second, .val (.ref b20), .val (.int 0)] []))
        refine own_to (fun _ kont => XS.aload X23.here hx rfl (hb hby at_170) rfl rfl kont) ?_
        show own_Ends _ _ _ _ (T23.setTop (mkF m 172 #[.val (.int z1), .val (.int z2), .val (.int z3), .val (.int z4), .val (.int 3), .val (.int kA), .val (.int kB), .val (.int kC), .val (.double (own_el kA z2)), .second, .val (.double (own_el kB z3)), .second, .val (.double (own_el kC z4)), .second, .val (.ref b20), .val (.int 0)] [(.ref b20)]))
        obtain ⟨_, _, ⟨T27, L27, k27, n27⟩, -, X27, ⟨Lc27, hQ27, l27, y27, z27⟩, st27⟩ := Jvm.LawKit.callS X23 hx (y := oM1) hown (mvT hZ (ow5 hw)) (mvT hZ (ow6 hw)) (mvT hZ (ow7 hw)) (mvT hZ (ow8 hw)) (by decide) (backOf (W := 0) (rmF31 l Z a0 hw [] b20 k20 (own_el kA z2) (own_el kB z3) (own_el kC z4) h23 n0 O23 Vs23 (own_el_fin hc136_24) (own_el_inf hc148_26)) hZ (ow8 hw) (ow7 hw) (by decide) (by decide)) (g := (mkF m 172 #[.val (.int z1), .val (.int z2), .val (.int z3), .val (.int z4), .val (.int (3 : Int32)), .val (.int kA), .val (.int kB), .val (.int kC), .val (.double (own_el kA z2)), .second, .val (.double (own_el kB z3)), .second, .val (.double (own_el kC z4)), .second, .val (.ref b20), .val (.int (0 : Int32))] [(.ref b20)])) rfl (by rw [hml]; rfl) (argsL := [(.ref b20)]) (rest := []) (lenOf pd_1 rfl) rfl (by show 2 * 0 + _ ≤ _; exact Nat.le_of_eq rfl) (hb hby at_172) (fun _ _ => ⟨rfl, e23, (own_le rfl), (own_le rfl)⟩)
        dsimp only [Pt.U, Pt.locs, Pt.cells, Pt.slots] at X27 l27 y27 z27 st27 hQ27
        subst y27 z27
        obtain ⟨rfl, N27q, E27⟩ := hQ27
        have N27 := own_fr l27 N23 N27q
        refine own_to st27 ?_
        show own_Ends _ _ _ _ (T27.setTop (mkF m 175 #[.val (.int z1), .val (.int z2), .val (.int z3), .val (.int z4), .val (.int 3), .val (.int kA), .val (.int kB), .val (.int kC), .val (.double (own_el kA z2)), .second, .val (.double (own_el kB z3)), .second, .val (.double (own_el kC z4)), .second, .val (.ref b20), .val (.int 0)] [(.int 0)]))
        refine own_to (fun _ kont => XS.iload X27.here hx rfl (hb hby at_175) rfl kont) ?_
        show own_Ends _ _ _ _ (T27.setTop (mkF m 177 #[.val (.int z1), .val (.int z2), .val (.int z3), .val (.int z4), .val (.int 3), .val (.int kA), .val (.int kB), .val (.int kC), .val (.double (own_el kA z2)), .second, .val (.double (own_el kB z3)), .second, .val (.double (own_el kC z4)), .second, .val (.ref b20), .val (.int 0)] [(.int 0), (.int 0)]))
        refine own_to (fun _ kont => XS.icmpNo X27.here hx rfl (hb hby at_177) rfl (teq (by decide)).2 kont) ?_
        show own_Ends _ _ _ _ (T27.setTop (mkF m 180 #[.val (.int z1), .val (.int z2), .val (.int z3), .val (.int z4), .val (.int 3), .val (.int kA), .val (.int kB), .val (.int kC), .val (.double (own_el kA z2)), .second, .val (.double (own_el kB z3)), .second, .val (.double (own_el kC z4)), .second, .val (.ref b20), .val (.int 0)] []))
        refine own_to (fun _ kont => XS.iconst X27.here hx rfl (hb hby at_180) kont) ?_
        show own_Ends _ _ _ _ (T27.setTop (mkF m 181 #[.val (.int z1), .val (.int z2), .val (.int z3), .val (.int z4), .val (.int 3), .val (.int kA), .val (.int kB), .val (.int kC), .val (.double (own_el kA z2)), .second, .val (.double (own_el kB z3)), .second, .val (.double (own_el kC z4)), .second, .val (.ref b20), .val (.int 0)] [(.int 1)]))
        refine own_to (fun _ kont => XS.goto X27.here hx rfl (pc0 := 181) (pc' := 185) rfl (hb hby at_181) (by decide) (by decide) kont) ?_
        show own_Ends _ _ _ _ (T27.setTop (mkF m 185 #[.val (.int z1), .val (.int z2), .val (.int z3), .val (.int z4), .val (.int 3), .val (.int kA), .val (.int kB), .val (.int kC), .val (.double (own_el kA z2)), .second, .val (.double (own_el kB z3)), .second, .val (.double (own_el kC z4)), .second, .val (.ref b20), .val (.int 0)] [(.int 1)]))
        refine own_leave X27 (v := some (.int (1 : Int32))) (fun h => by rw [Bd.returns] at h; cases h) ?_ (by decide) (by decide) (fun fs hr => retN X27 hx (t := .boolean) Bd.returns (by simp) (hb hby at_185) hr)
        show Q_rm0 Z z1 z2 z3 z4 h0 n0 _ T27.heap _
        rw [E27]
        exact ⟨rfl, N27⟩
      · -- pc 148: not kB = (2 : Int32)
        refine own_to (fun _ kont => XS.icmpNo X23.here hx rfl (hb hby at_148) rfl (feq hc148_26).1 kont) ?_
        show own_Ends _ _ _ _ (T23.setTop (mkF m 151 #[.val (.int z1), .val (.int z2), .val (.int z3), .val (.int z4), .val (.int 3), .val (.int kA), .val (.int kB), .val (.int kC), .val (.double (own_el kA z2)), .second, .val (.double (own_el kB z3)), .second, .val (.double (own_el kC z4)), .second, .val (.ref b20), .unset] []))
        refine own_to (fun _ kont => XS.iload X23.here hx rfl (hb hby at_151) rfl kont) ?_
        show own_Ends _ _ _ _ (T23.setTop (mkF m 153 #[.val (.int z1), .val (.int z2), .val (.int z3), .val (.int z4), .val (.int 3), .val (.int kA), .val (.int kB), .val (.int kC), .val (.double (own_el kA z2)), .second, .val (.double (own_el kB z3)), .second, .val (.double (own_el kC z4)), .second, .val (.ref b20), .unset] [(.int 3)]))
        refine own_to (fun _ kont => XS.iconst X23.here hx rfl (hb hby at_153) kont) ?_
        show own_Ends _ _ _ _ (T23.setTop (mkF m 154 #[.val (.int z1), .val (.int z2), .val (.int z3), .val (.int z4), .val (.int 3), .val (.int kA), .val (.int kB), .val (.int kC), .val (.double (own_el kA z2)), .second, .val (.double (own_el kB z3)), .second, .val (.double (own_el kC z4)), .second, .val (.ref b20), .unset] [(.int 3), (.int 3)]))
        refine own_to (fun _ kont => XS.icmpNo X23.here hx rfl (hb hby at_154) rfl (flt (by decide)).1 kont) ?_
        show own_Ends _ _ _ _ (T23.setTop (mkF m 157 #[.val (.int z1), .val (.int z2), .val (.int z3), .val (.int z4), .val (.int 3), .val (.int kA), .val (.int kB), .val (.int kC), .val (.double (own_el kA z2)), .second, .val (.double (own_el kB z3)), .second, .val (.double (own_el kC z4)), .second, .val (.ref b20), .unset] []))
        refine own_to (fun _ kont => XS.iload X23.here hx rfl (hb hby at_157) rfl kont) ?_
        show own_Ends _ _ _ _ (T23.setTop (mkF m 159 #[.val (.int z1), .val (.int z2), .val (.int z3), .val (.int z4), .val (.int 3), .val (.int kA), .val (.int kB), .val (.int kC), .val (.double (own_el kA z2)), .second, .val (.double (own_el kB z3)), .second, .val (.double (own_el kC z4)), .second, .val (.ref b20), .unset] [(.int kC)]))
        refine own_to (fun _ kont => XS.iconst X23.here hx rfl (hb hby at_159) kont) ?_
        show own_Ends _ _ _ _ (T23.setTop (mkF m 160 #[.val (.int z1), .val (.int z2), .val (.int z3), .val (.int z4), .val (.int 3), .val (.int kA), .val (.int kB), .val (.int kC), .val (.double (own_el kA z2)), .second, .val (.double (own_el kB z3)), .second, .val (.double (own_el kC z4)), .second, .val (.ref b20), .unset] [(.int 2), (.int kC)]))
        by_cases hc160_28 : kC = (2 : Int32)
        · -- pc 160: kC = (2 : Int32)
          refine own_to (fun _ kont => XS.icmpYes X23.here hx rfl (pc0 := 160) (pc' := 167) rfl (hb hby at_160) rfl (teq hc160_28).1 (by decide) (by decide) kont) ?_
          show own_Ends _ _ _ _ (T23.setTop (mkF m 167 #[.val (.int z1), .val (.int z2), .val (.int z3), .val (.int z4), .val (.int 3), .val (.int kA), .val (.int kB), .val (.int kC), .val (.double (own_el kA z2)), .second, .val (.double (own_el kB z3)), .second, .val (.double (own_el kC z4)), .second, .val (.ref b20), .unset] []))
          refine own_to (fun _ kont => XS.iconst X23.here hx rfl (hb hby at_167) kont) ?_
          show own_Ends _ _ _ _ (T23.setTop (mkF m 168 #[.val (.int z1), .val (.int z2), .val (.int z3), .val (.int z4), .val (.int 3), .val (.int kA), .val (.int kB), .val (.int kC), .val (.double (own_el kA z2)), .second, .val (.double (own_el kB z3)), .second, .val (.double (own_el kC z4)), .second, .val (.ref b20), .unset] [(.int 0)]))
          refine own_to (fun _ kont => XS.istore X23.here hx rfl (hb hby at_168) rfl (l' := #[.val (.int z1), .val (.int z2), .val (.int z3), .val (.int z4), .val (.int (3 : Int32)), .val (.int kA), .val (.int kB), .val (.int kC), .val (.double (own_el kA z2)), .second, .val (.double (own_el kB z3)), .second, .val (.double (own_el kC z4)), .second, .val (.ref b20), .val (.int (0 : Int32))]) rfl kont) ?_
          show own_Ends _ _ _ _ (T23.setTop (mkF m 170 #[.val (.int z1), .val (.int z2), .val (.int z3), .val (.int z4), .val (.int 3), .val (.int kA), .val (.int kB), .val (.int kC), .val (.double (own_el kA z2)), .second, .val (.double (own_el kB z3)), .second, .val (.double (own_el kC z4)), .second, .val (.ref b20), .val (.int 0)] []))
          refine own_to (fun _ kont => XS.aload X23.here hx rfl (hb hby at_170) rfl rfl kont) ?_
          show own_Ends _ _ _ _ (T23.setTop (mkF m 172 #[.val (.int z1), .val (.int z2), .val (.int z3), .val (.int z4), .val (.int 3), .val (.int kA), .val (.int kB), .val (.int kC), .val (.double (own_el kA z2)), .second, .val (.double (own_el kB z3)), .second, .val (.double (own_el kC z4)), .second, .val (.ref b20), .val (.int 0)] [(.ref b20)]))
          obtain ⟨_, _, ⟨T29, L29, k29, n29⟩, -, X29, ⟨Lc29, hQ29, l29, y29, z29⟩, st29⟩ := Jvm.LawKit.callS X23 hx (y := oM1) hown (mvT hZ (ow5 hw)) (mvT hZ (ow6 hw)) (mvT hZ (ow7 hw)) (mvT hZ (ow8 hw)) (by decide) (backOf (W := 0) (rmF32 l Z a0 hw [] b20 k20 (own_el kA z2) (own_el kB z3) (own_el kC z4) h23 n0 O23 Vs23 (own_el_fin hc136_24) (own_el_fin hc148_26) (own_el_inf hc160_28)) hZ (ow8 hw) (ow7 hw) (by decide) (by decide)) (g := (mkF m 172 #[.val (.int z1), .val (.int z2), .val (.int z3), .val (.int z4), .val (.int (3 : Int32)), .val (.int kA), .val (.int kB), .val (.int kC), .val (.double (own_el kA z2)), .second, .val (.double (own_el kB z3)), .second, .val (.double (own_el kC z4)), .second, .val (.ref b20), .val (.int (0 : Int32))] [(.ref b20)])) rfl (by rw [hml]; rfl) (argsL := [(.ref b20)]) (rest := []) (lenOf pd_1 rfl) rfl (by show 2 * 0 + _ ≤ _; exact Nat.le_of_eq rfl) (hb hby at_172) (fun _ _ => ⟨rfl, e23, (own_le rfl), (own_le rfl)⟩)
          dsimp only [Pt.U, Pt.locs, Pt.cells, Pt.slots] at X29 l29 y29 z29 st29 hQ29
          subst y29 z29
          obtain ⟨rfl, N29q, E29⟩ := hQ29
          have N29 := own_fr l29 N23 N29q
          refine own_to st29 ?_
          show own_Ends _ _ _ _ (T29.setTop (mkF m 175 #[.val (.int z1), .val (.int z2), .val (.int z3), .val (.int z4), .val (.int 3), .val (.int kA), .val (.int kB), .val (.int kC), .val (.double (own_el kA z2)), .second, .val (.double (own_el kB z3)), .second, .val (.double (own_el kC z4)), .second, .val (.ref b20), .val (.int 0)] [(.int 0)]))
          refine own_to (fun _ kont => XS.iload X29.here hx rfl (hb hby at_175) rfl kont) ?_
          show own_Ends _ _ _ _ (T29.setTop (mkF m 177 #[.val (.int z1), .val (.int z2), .val (.int z3), .val (.int z4), .val (.int 3), .val (.int kA), .val (.int kB), .val (.int kC), .val (.double (own_el kA z2)), .second, .val (.double (own_el kB z3)), .second, .val (.double (own_el kC z4)), .second, .val (.ref b20), .val (.int 0)] [(.int 0), (.int 0)]))
          refine own_to (fun _ kont => XS.icmpNo X29.here hx rfl (hb hby at_177) rfl (teq (by decide)).2 kont) ?_
          show own_Ends _ _ _ _ (T29.setTop (mkF m 180 #[.val (.int z1), .val (.int z2), .val (.int z3), .val (.int z4), .val (.int 3), .val (.int kA), .val (.int kB), .val (.int kC), .val (.double (own_el kA z2)), .second, .val (.double (own_el kB z3)), .second, .val (.double (own_el kC z4)), .second, .val (.ref b20), .val (.int 0)] []))
          refine own_to (fun _ kont => XS.iconst X29.here hx rfl (hb hby at_180) kont) ?_
          show own_Ends _ _ _ _ (T29.setTop (mkF m 181 #[.val (.int z1), .val (.int z2), .val (.int z3), .val (.int z4), .val (.int 3), .val (.int kA), .val (.int kB), .val (.int kC), .val (.double (own_el kA z2)), .second, .val (.double (own_el kB z3)), .second, .val (.double (own_el kC z4)), .second, .val (.ref b20), .val (.int 0)] [(.int 1)]))
          refine own_to (fun _ kont => XS.goto X29.here hx rfl (pc0 := 181) (pc' := 185) rfl (hb hby at_181) (by decide) (by decide) kont) ?_
          show own_Ends _ _ _ _ (T29.setTop (mkF m 185 #[.val (.int z1), .val (.int z2), .val (.int z3), .val (.int z4), .val (.int 3), .val (.int kA), .val (.int kB), .val (.int kC), .val (.double (own_el kA z2)), .second, .val (.double (own_el kB z3)), .second, .val (.double (own_el kC z4)), .second, .val (.ref b20), .val (.int 0)] [(.int 1)]))
          refine own_leave X29 (v := some (.int (1 : Int32))) (fun h => by rw [Bd.returns] at h; cases h) ?_ (by decide) (by decide) (fun fs hr => retN X29 hx (t := .boolean) Bd.returns (by simp) (hb hby at_185) hr)
          show Q_rm0 Z z1 z2 z3 z4 h0 n0 _ T29.heap _
          rw [E29]
          exact ⟨rfl, N29⟩
        · -- pc 160: not kC = (2 : Int32)
          refine own_to (fun _ kont => XS.icmpNo X23.here hx rfl (hb hby at_160) rfl (feq hc160_28).1 kont) ?_
          show own_Ends _ _ _ _ (T23.setTop (mkF m 163 #[.val (.int z1), .val (.int z2), .val (.int z3), .val (.int z4), .val (.int 3), .val (.int kA), .val (.int kB), .val (.int kC), .val (.double (own_el kA z2)), .second, .val (.double (own_el kB z3)), .second, .val (.double (own_el kC z4)), .second, .val (.ref b20), .unset] []))
          refine own_to (fun _ kont => XS.iconst X23.here hx rfl (hb hby at_163) kont) ?_
          show own_Ends _ _ _ _ (T23.setTop (mkF m 164 #[.val (.int z1), .val (.int z2), .val (.int z3), .val (.int z4), .val (.int 3), .val (.int kA), .val (.int kB), .val (.int kC), .val (.double (own_el kA z2)), .second, .val (.double (own_el kB z3)), .second, .val (.double (own_el kC z4)), .second, .val (.ref b20), .unset] [(.int 1)]))
          refine own_to (fun _ kont => XS.goto X23.here hx rfl (pc0 := 164) (pc' := 168) rfl (hb hby at_164) (by decide) (by decide) kont) ?_
          show own_Ends _ _ _ _ (T23.setTop (mkF m 168 #[.val (.int z1), .val (.int z2), .val (.int z3), .val (.int z4), .val (.int 3), .val (.int kA), .val (.int kB), .val (.int kC), .val (.double (own_el kA z2)), .second, .val (.double (own_el kB z3)), .second, .val (.double (own_el kC z4)), .second, .val (.ref b20), .unset] [(.int 1)]))
          refine own_to (fun _ kont => XS.istore X23.here hx rfl (hb hby at_168) rfl (l' := #[.val (.int z1), .val (.int z2), .val (.int z3), .val (.int z4), .val (.int (3 : Int32)), .val (.int kA), .val (.int kB), .val (.int kC), .val (.double (own_el kA z2)), .second, .val (.double (own_el kB z3)), .second, .val (.double (own_el kC z4)), .second, .val (.ref b20), .val (.int (1 : Int32))]) rfl kont) ?_
          show own_Ends _ _ _ _ (T23.setTop (mkF m 170 #[.val (.int z1), .val (.int z2), .val (.int z3), .val (.int z4), .val (.int 3), .val (.int kA), .val (.int kB), .val (.int kC), .val (.double (own_el kA z2)), .second, .val (.double (own_el kB z3)), .second, .val (.double (own_el kC z4)), .second, .val (.ref b20), .val (.int 1)] []))
          refine own_to (fun _ kont => XS.aload X23.here hx rfl (hb hby at_170) rfl rfl kont) ?_
          show own_Ends _ _ _ _ (T23.setTop (mkF m 172 #[.val (.int z1), .val (.int z2), .val (.int z3), .val (.int z4), .val (.int 3), .val (.int kA), .val (.int kB), .val (.int kC), .val (.double (own_el kA z2)), .second, .val (.double (own_el kB z3)), .second, .val (.double (own_el kC z4)), .second, .val (.ref b20), .val (.int 1)] [(.ref b20)]))
          obtain ⟨_, _, ⟨T30, L30, k30, n30⟩, -, X30, ⟨Lc30, hQ30, l30, y30, z30⟩, st30⟩ := Jvm.LawKit.callS X23 hx (y := oM1) hown (mvT hZ (ow5 hw)) (mvT hZ (ow6 hw)) (mvT hZ (ow7 hw)) (mvT hZ (ow8 hw)) (by decide) (backOf (W := 0) (rmF33 l Z a0 hw [] b20 k20 (own_el kA z2) (own_el kB z3) (own_el kC z4) h23 n0 O23 Vs23 (own_el_fin hc136_24) (own_el_fin hc148_26) (own_el_fin hc160_28)) hZ (ow8 hw) (ow7 hw) (by decide) (by decide)) (g := (mkF m 172 #[.val (.int z1), .val (.int z2), .val (.int z3), .val (.int z4), .val (.int (3 : Int32)), .val (.int kA), .val (.int kB), .val (.int kC), .val (.double (own_el kA z2)), .second, .val (.double (own_el kB z3)), .second, .val (.double (own_el kC z4)), .second, .val (.ref b20), .val (.int (1 : Int32))] [(.ref b20)])) rfl (by rw [hml]; rfl) (argsL := [(.ref b20)]) (rest := []) (lenOf pd_1 rfl) rfl (by show 2 * 0 + _ ≤ _; exact Nat.le_of_eq rfl) (hb hby at_172) (fun _ _ => ⟨rfl, e23, (own_le rfl), (own_le rfl)⟩)
          dsimp only [Pt.U, Pt.locs, Pt.cells, Pt.slots] at X30 l30 y30 z30 st30 hQ30
          subst y30 z30
          obtain ⟨rfl, N30q, E30⟩ := hQ30
          have N30 := own_fr l30 N23 N30q
          refine own_to st30 ?_
          show own_Ends _ _ _ _ (T30.setTop (mkF m 175 #[.val (.int z1), .val (.int z2), .val (.int z3), .val (.int z4), .val (.int 3), .val (.int kA), .val (.int kB), .val (.int kC), .val (.double (own_el kA z2)), .second, .val (.double (own_el kB z3)), .second, .val (.double (own_el kC z4)), .second, .val (.ref b20), .val (.int 1)] [(.int 1)]))
          refine own_to (fun _ kont => XS.iload X30.here hx rfl (hb hby at_175) rfl kont) ?_
          show own_Ends _ _ _ _ (T30.setTop (mkF m 177 #[.val (.int z1), .val (.int z2), .val (.int z3), .val (.int z4), .val (.int 3), .val (.int kA), .val (.int kB), .val (.int kC), .val (.double (own_el kA z2)), .second, .val (.double (own_el kB z3)), .second, .val (.double (own_el kC z4)), .second, .val (.ref b20), .val (.int 1)] [(.int 1), (.int 1)]))
          refine own_to (fun _ kont => XS.icmpNo X30.here hx rfl (hb hby at_177) rfl (teq (by decide)).2 kont) ?_
          show own_Ends _ _ _ _ (T30.setTop (mkF m 180 #[.val (.int z1), .val (.int z2), .val (.int z3), .val (.int z4), .val (.int 3), .val (.int kA), .val (.int kB), .val (.int kC), .val (.double (own_el kA z2)), .second, .val (.double (own_el kB z3)), .second, .val (.double (own_el kC z4)), .second, .val (.ref b20), .val (.int 1)] []))
          refine own_to (fun _ kont => XS.iconst X30.here hx rfl (hb hby at_180) kont) ?_
          show own_Ends _ _ _ _ (T30.setTop (mkF m 181 #[.val (.int z1), .val (.int z2), .val (.int z3), .val (.int z4), .val (.int 3), .val (.int kA), .val (.int kB), .val (.int kC), .val (.double (own_el kA z2)), .second, .val (.double (own_el kB z3)), .second, .val (.double (own_el kC z4)), .second, .val (.ref b20), .val (.int 1)] [(.int 1)]))
          refine own_to (fun _ kont => XS.goto X30.here hx rfl (pc0 := 181) (pc' := 185) rfl (hb hby at_181) (by decide) (by decide) kont) ?_
          show own_Ends _ _ _ _ (T30.setTop (mkF m 185 #[.val (.int z1), .val (.int z2), .val (.int z3), .val (.int z4), .val (.int 3), .val (.int kA), .val (.int kB), .val (.int kC), .val (.double (own_el kA z2)), .second, .val (.double (own_el kB z3)), .second, .val (.double (own_el kC z4)), .second, .val (.ref b20), .val (.int 1)] [(.int 1)]))
          refine own_leave X30 (v := some (.int (1 : Int32))) (fun h => by rw [Bd.returns] at h; cases h) ?_ (by decide) (by decide) (fun fs hr => retN X30 hx (t := .boolean) Bd.returns (by simp) (hb hby at_185) hr)
          show Q_rm0 Z z1 z2 z3 z4 h0 n0 _ T30.heap _
          rw [E30]
          exact ⟨rfl, N30⟩
set_option maxRecDepth 65536 in
set_option maxHeartbeats 40000000 in
theorem comes_1 {Post : Tables → Env → Array Value → State → Outcome → State → Prop} (hpost : ∀ tb e args s v u, (limb_1_1.after args s (.returned v) u = true ∧ limb_1_2.after args s (.returned v) u = true ∧ True) → FrameEnd s (.returned v) u (Jvm.fieldLocs frame_1_writes args s ++ Jvm.arrayLocs frame_1_arrays args s ++ Jvm.staticLocs frame_1_statics s) 16 128 → Post tb e args s (.returned v) u) :
    ArmFor flags0 classFile x code maxLocals ret World_1 tables_1 room_1 Calls_1 rest_1 Pre_1 Post := by
  intro l hfl _ _ p e ha hc hk s m args below hf hA hF happ hP
  obtain ⟨hcalls, hrest, hpre⟩ := hP
  obtain ⟨-, -, -, hnamed, -, -, -, hat⟩ := (Spec.applies_iff hf).mp happ
  obtain ⟨hg, hn⟩ := and_e (Cond.before_iff.mp (show (Jvm.Cond.and given_1 narrow_1).before args s = true from hpre))
  obtain ⟨gc0, hg0⟩ := and_e hg
  obtain ⟨gc1, hg1⟩ := and_e hg0
  obtain ⟨gc2, hg2⟩ := and_e hg1
  obtain ⟨gc3, hg3⟩ := and_e hg2
  have gc4 := hg3
  have nc0 := hn
  obtain ⟨w0, w1, w2, w3, rfl⟩ : ∃ w0 w1 w2 w3 : Value, args = #[w0, w1, w2, w3] := by
    have hs : args.size = 4 := by simpa [Cond.value, given_1] using gc0
    obtain ⟨L⟩ := args
    match L, hs with
    | [w0, w1, w2, w3], _ => exact ⟨w0, w1, w2, w3, rfl⟩
  have hw := fun d (hd : d ∈ tables_1) => atoms_spec (ws := Jvm.Cond.code x code maxLocals ret :: tables_1) hat d (List.mem_cons_of_mem _ hd)
  have hfit : Fit s := fun {y c} hc i hi => by
    obtain ⟨ha, rfl⟩ := Array.getElem?_eq_some_iff.mp hc
    have q := List.all_eq_true.mp ((Array.all_eq_true_iff_forall_mem.mp hF) _ (Array.getElem_mem ha)) i (List.mem_range.mpr hi)
    simpa [Array.getElem?_eq_getElem hi] using q
  obtain ⟨i0, ei0⟩ := is_v gc1
  obtain rfl : w0 = (.int i0) := Option.some.inj ei0
  obtain ⟨i1, ei1⟩ := is_v gc2
  obtain rfl : w1 = (.int i1) := Option.some.inj ei1
  obtain ⟨i2, ei2⟩ := is_v gc3
  obtain rfl : w2 = (.int i2) := Option.some.inj ei2
  obtain ⟨i3, ei3⟩ := is_v gc4
  obtain rfl : w3 = (.int i3) := Option.some.inj ei3
  obtain ⟨n, o, h1, h2, h3, _, L, rfl, ⟨rfl, N⟩, hq⟩ := rm0 l s _ hw tables_1 i0 i1 i2 i3  s.heap s.heap.size (Old.start s)  p e ha hc hk s m _ below hf ((Spec.applies_iff_loose hf).mp happ).1 ⟨rfl, State.Warmed39.refl s, rfl⟩ trivial
  refine ⟨n, _, h1, h2, h3, hpost _ _ _ _ _ _ ⟨Cond.after_iff.mpr rfl, Cond.after_iff.mpr (eq_i res_at (Term.int_eval (1)) rfl), trivial⟩ ⟨hq.1, hq.2.1, (hq.2.2.sift fun y hy => Or.inr (N y hy)).mono (by decide) (by decide)⟩⟩
theorem main_1_1 : Claimed_1_1 := comes_1 fun _ _ _ _ _ _ h hF => ⟨h.1, hF⟩
theorem main_1_2 : Claimed_1_2 := comes_1 fun _ _ _ _ _ _ h hF => ⟨h.2.1, hF⟩
end Jvm.Pilot.@@N@@
namespace Jvm.Pilot.@@N@@
open Jvm Jvm.ClassFile Sem Op Lib Jvm.Free Jvm.Stand Jvm.Pilot.@@N@@.Jvm.D
/-! MADE BY PROGRAM (witnessworld.py) out of the Statement's table words and the real class files: 11 classes; the members and pool entries that the words name. The judged class is class 1, her method 2. -/
namespace start1
open Jvm.ClassFile
def u (s : String) : CpInfo := .utf8 (stringToUtf16 s)
/-- a pool by its gaps: so many unusable entries, then the entry; so many at the end -/
def gap : Nat → List CpInfo → List CpInfo
  | 0, r => r
  | n + 1, r => .unusable :: gap n r
def poolList (es : List (Nat × CpInfo)) (last : Nat) : List CpInfo := es.foldr (fun e r => gap e.1 (e.2 :: r)) (gap last [])
def pool (es : List (Nat × CpInfo)) (last : Nat) : Array CpInfo := ⟨poolList es last⟩
def fileOf (pool : Array CpInfo) (this : Nat) (attrs : Array Attribute := #[]) (ms : Array MethodInfo := #[]) (fl : Nat := 33) (sup : Nat := 0) (ifs : Array Nat := #[]) (fds : Array FieldInfo := #[]) : ClassFile where
  minorVersion := 0
  majorVersion := 65
  constantPool := pool
  accessFlags := fl
  thisClass := this
  superClass := sup
  interfaces := ifs
  fields := fds
  methods := ms
  attributes := attrs
def plain (name : String) (sup : Option ClassId) : Class where
  name := name
  kind := .ordinary
  loader := none
  accessFlags := 33
  super := sup
  interfaces := #[]
  cf := none
  fields := #[]
  methods := #[]
  instanceTypes := #[]
  staticTypes := #[]
  resolved := #[]
  callSites := []
  init := .initialized
  statics := none
  mirror := none

def pool0 : Array CpInfo := pool [(5, u "<init>"), (0, u "()V"), (1, .class_ 10), (1, u "java/lang/Object")] 113

def k0m0 : Method := { name := "<init>", desc := "()V", sig := { parameters := [], returnType := none }, accessFlags := 1, code := none }
/-- java/lang/Object -/
def k0 : Class := { plain "java/lang/Object" none with
  accessFlags := 33
  interfaces := #[]
  cf := some (fileOf pool0 8 #[] #[{ accessFlags := 1, nameIndex := 5, descriptorIndex := 6, attributes := #[] }] 33 0 #[] #[])
  fields := #[]
  methods := #[k0m0]
  instanceTypes := #[]
  staticTypes := #[]
  resolved := Array.replicate 124 none
  statics := none }

def pool1 : Array CpInfo := pool [(2, .class_ 4), (1, u "java/lang/Object"), (0, u "<init>"), (0, u "()V"), (2, .double 9218868437227405311), (1, .double 9218868437227405312), (1, .double 18442240474082181119), (1, .methodref 16 17), (0, .class_ 18), (0, .nameAndType 19 20), (0, u "com/example/lachesis/lachesis/core/solver/BlockEquationsIsFinitePinLaw"), (0, u "element"), (0, u "(II)D"), (0, .methodref 22 23), (0, .class_ 24), (0, .nameAndType 25 26), (0, u "com/example/lachesis/lachesis/core/solver/BlockEquations"), (0, u "isFinite"), (0, u "([D)Z"), (3, u "law"), (0, u "(IIII)Z")] 4

def k1m0 : Method := { name := "<init>", desc := "()V", sig := { parameters := [], returnType := none }, accessFlags := 2, code := none }
def k1c1 : Code := { maxStack := 2, maxLocals := 4, code := method_2_code, exceptionTable := #[], attributes := #[] }
def k1m1 : Method := { name := "element", desc := "(II)D", sig := { parameters := [.int, .int], returnType := some .double }, accessFlags := 10, code := some k1c1 }
def k1c2 : Code := { maxStack := 5, maxLocals := 16, code := code, exceptionTable := #[], attributes := #[] }
def k1m2 : Method := { name := "law", desc := "(IIII)Z", sig := { parameters := [.int, .int, .int, .int], returnType := some .boolean }, accessFlags := 9, code := some k1c2 }
/-- com/example/lachesis/lachesis/core/solver/BlockEquationsIsFinitePinLaw -/
def k1 : Class := { plain "com/example/lachesis/lachesis/core/solver/BlockEquationsIsFinitePinLaw" (some 0) with
  accessFlags := 49
  interfaces := #[]
  cf := some (fileOf pool1 16 #[] #[{ accessFlags := 2, nameIndex := 5, descriptorIndex := 6, attributes := #[] }, { accessFlags := 10, nameIndex := 19, descriptorIndex := 20, attributes := #[] }, { accessFlags := 9, nameIndex := 30, descriptorIndex := 31, attributes := #[] }] 49 2 #[] #[])
  fields := #[]
  methods := #[k1m0, k1m1, k1m2]
  instanceTypes := #[]
  staticTypes := #[]
  resolved := Array.replicate 36 none
  statics := none }

def pool2 : Array CpInfo := pool [(2, .class_ 4), (1, u "java/lang/Object"), (3, .class_ 10), (1, u "com/example/lachesis/lachesis/core/solver/BlockEquations"), (0, u "groups"), (0, u "[I"), (2, u "choices"), (2, u "exitStarts"), (2, u "exitTransitions"), (2, u "leaveLows"), (0, u "[D"), (2, u "leaveHighs"), (2, u "leaveValues"), (2, u "moveStarts"), (2, u "moveNodes"), (2, u "moveProbabilities"), (2, u "awayLows"), (2, u "awayHighs"), (53, .double 9218868437227405312), (47, u "PAD_MARGIN"), (0, u "D"), (1, u "PAD_TRIES"), (0, u "I"), (14, u "isFinite"), (0, u "([D)Z")] 4

def k2c0 : Code := { maxStack := 4, maxLocals := 3, code := prog_87_method_8_code, exceptionTable := #[], attributes := #[] }
def k2m0 : Method := { name := "isFinite", desc := "([D)Z", sig := { parameters := [(.array .double)], returnType := some .boolean }, accessFlags := 8, code := some k2c0 }
/-- com/example/lachesis/lachesis/core/solver/BlockEquations -/
def k2 : Class := { plain "com/example/lachesis/lachesis/core/solver/BlockEquations" (some 0) with
  accessFlags := 32
  interfaces := #[]
  cf := some (fileOf pool2 8 #[] #[{ accessFlags := 8, nameIndex := 167, descriptorIndex := 168, attributes := #[] }] 32 2 #[] #[{ accessFlags := 26, nameIndex := 148, descriptorIndex := 149, attributes := #[] }, { accessFlags := 26, nameIndex := 151, descriptorIndex := 152, attributes := #[] }, { accessFlags := 18, nameIndex := 11, descriptorIndex := 12, attributes := #[] }, { accessFlags := 18, nameIndex := 15, descriptorIndex := 12, attributes := #[] }, { accessFlags := 16, nameIndex := 18, descriptorIndex := 12, attributes := #[] }, { accessFlags := 16, nameIndex := 21, descriptorIndex := 12, attributes := #[] }, { accessFlags := 16, nameIndex := 24, descriptorIndex := 25, attributes := #[] }, { accessFlags := 16, nameIndex := 28, descriptorIndex := 25, attributes := #[] }, { accessFlags := 16, nameIndex := 31, descriptorIndex := 25, attributes := #[] }, { accessFlags := 16, nameIndex := 34, descriptorIndex := 12, attributes := #[] }, { accessFlags := 16, nameIndex := 37, descriptorIndex := 12, attributes := #[] }, { accessFlags := 16, nameIndex := 40, descriptorIndex := 25, attributes := #[] }, { accessFlags := 16, nameIndex := 43, descriptorIndex := 25, attributes := #[] }, { accessFlags := 16, nameIndex := 46, descriptorIndex := 25, attributes := #[] }])
  fields := #[{ name := "PAD_MARGIN", type := .double, accessFlags := 26, slot := 0, constantValue := 0 }, { name := "PAD_TRIES", type := .int, accessFlags := 26, slot := 1, constantValue := 0 }, { name := "groups", type := (.array .int), accessFlags := 18, slot := 0, constantValue := 0 }, { name := "choices", type := (.array .int), accessFlags := 18, slot := 1, constantValue := 0 }, { name := "exitStarts", type := (.array .int), accessFlags := 16, slot := 2, constantValue := 0 }, { name := "exitTransitions", type := (.array .int), accessFlags := 16, slot := 3, constantValue := 0 }, { name := "leaveLows", type := (.array .double), accessFlags := 16, slot := 4, constantValue := 0 }, { name := "leaveHighs", type := (.array .double), accessFlags := 16, slot := 5, constantValue := 0 }, { name := "leaveValues", type := (.array .double), accessFlags := 16, slot := 6, constantValue := 0 }, { name := "moveStarts", type := (.array .int), accessFlags := 16, slot := 7, constantValue := 0 }, { name := "moveNodes", type := (.array .int), accessFlags := 16, slot := 8, constantValue := 0 }, { name := "moveProbabilities", type := (.array .double), accessFlags := 16, slot := 9, constantValue := 0 }, { name := "awayLows", type := (.array .double), accessFlags := 16, slot := 10, constantValue := 0 }, { name := "awayHighs", type := (.array .double), accessFlags := 16, slot := 11, constantValue := 0 }]
  methods := #[k2m0]
  instanceTypes := #[(.array .int), (.array .int), (.array .int), (.array .int), (.array .double), (.array .double), (.array .double), (.array .int), (.array .int), (.array .double), (.array .double), (.array .double)]
  staticTypes := #[.double, .int]
  resolved := Array.replicate 173 none
  statics := none }

def pool3 : Array CpInfo := pool [(1, u "java/lang/Cloneable"), (0, .class_ 1), (0, u "java/lang/Object"), (0, .class_ 3)] 3

/-- java/lang/Cloneable -/
def k3 : Class := { plain "java/lang/Cloneable" (some 0) with
  accessFlags := 1537
  interfaces := #[]
  cf := some (fileOf pool3 2 #[] #[] 1537 4 #[] #[])
  fields := #[]
  methods := #[]
  instanceTypes := #[]
  staticTypes := #[]
  resolved := Array.replicate 8 none
  statics := none }

def pool4 : Array CpInfo := pool [(1, u "java/io/Serializable"), (0, .class_ 1), (0, u "java/lang/Object"), (0, .class_ 3)] 3

/-- java/io/Serializable -/
def k4 : Class := { plain "java/io/Serializable" (some 0) with
  accessFlags := 1537
  interfaces := #[]
  cf := some (fileOf pool4 2 #[] #[] 1537 4 #[] #[])
  fields := #[]
  methods := #[]
  instanceTypes := #[]
  staticTypes := #[]
  resolved := Array.replicate 8 none
  statics := none }

/-- the primitive byte -/
def k5 : Class := { plain "byte" none with kind := .primitive 'B', accessFlags := 0x411 }
/-- [B -/
def k6 : Class := { plain "[B" (some 0) with kind := .array 5 .byte, interfaces := #[3, 4], accessFlags := 1041 }

/-- the primitive double -/
def k7 : Class := { plain "double" none with kind := .primitive 'D', accessFlags := 0x411 }
/-- [D -/
def k8 : Class := { plain "[D" (some 0) with kind := .array 7 .double, interfaces := #[3, 4], accessFlags := 1041 }

/-- the primitive int -/
def k9 : Class := { plain "int" none with kind := .primitive 'I', accessFlags := 0x411 }
/-- [I -/
def k10 : Class := { plain "[I" (some 0) with kind := .array 9 .int, interfaces := #[3, 4], accessFlags := 1041 }

def heap : Heap := #[]
def classes : Array Class := #[k0, k1, k2, k3, k4, k5, k6, k7, k8, k9, k10]
def interned : List (Array UInt16 × Addr) := []
def slotsUsed : Nat := 0
def theMethod : MethodId := ⟨1, 2⟩
def args0 : Array Value := #[.int 5, .int 6, .int 7, .int 8]
def aboutOver (below : List Frame) : State where
  vm := { classes := classes, interned := interned.toArray }
  heap := heap
  slotsUsed := slotsUsed
  threads := #[{ frames := .invoking theMethod args0 :: below }]
def below0 : List Frame := [.native { method := ⟨0, 0⟩, args := #[] }]
def about1 : State := aboutOver below0
def p0 : Program := .bare "" "" ""
def e0 : Env := launch0.env 0 0 0
theorem w_frames : about1.frames = Frame.invoking theMethod args0 :: below0 := rfl
set_option maxRecDepth 65536 in
theorem w_args : argsFit about1.vm theMethod args0 = true := by decide +kernel
set_option maxRecDepth 65536 in
theorem w_heap : heapFits about1 = true := by decide +kernel
set_option maxRecDepth 65536 in
theorem w_runnable : about1.curStatus? = some .runnable := by decide +kernel
set_option maxRecDepth 65536 in
theorem w_alone : about1.alone = true := by decide +kernel
set_option maxRecDepth 65536 in
theorem w_named : about1.methodNamed? x = some theMethod := by decide +kernel
set_option maxRecDepth 65536 in
theorem w_hears : about1.hears theMethod below0 = true := by decide +kernel
set_option maxRecDepth 65536 in
theorem w_ripe : about1.ripe theMethod args0 below0 = true := by decide +kernel
theorem w_running : about1.status = .running := rfl
set_option maxRecDepth 65536 in
theorem w_room : about1.hasRoom e0.platform room_1 = true :=
  launch0.hasRoom_least _ room_1 (by decide +kernel) (by decide +kernel) (by decide +kernel) (by decide +kernel) (by decide +kernel) (by decide +kernel)
theorem allAtoms_all (ts : List Jvm.Cond) (a : Array Jvm.Value) (st : Jvm.State) : (allAtoms ts).before a st = ts.all (fun c => c.before a st) := by
  induction ts with
  | nil => rfl
  | cons c t ih =>
    show (Jvm.Cond.and c (allAtoms t)).before a st = _
    rw [Jvm.Cond.before_and, ih, List.all_cons]
def words1 : List Jvm.Cond := Jvm.Cond.code x code maxLocals ret :: tables_1
/-- a 'code' word, met by the world's own term for the bytes: nothing is compared byte by byte -/
theorem code_word {y : MethodName} {bytes : ByteArray} {mx : Nat} {rt : Option FieldType} {a : Array Value} {s : State} {m : MethodId} {meth : Method} {c : Code} (h1 : s.methodNamed? y = some m) (h2 : s.vm.method? m = some meth) (h3 : meth.code = some c) (h4 : c.code = bytes)
    (h5 : (c.maxLocals == mx && c.exceptionTable.isEmpty && decide (c.maxStack ≤ mostOperands) && decide (meth.sig.returnType = rt) && !meth.locks && decide (parseMethodDescriptor y.desc = some meth.sig)) = true) : (Jvm.Cond.code y bytes mx rt).before a s = true := by
  simp only [Bool.and_eq_true, beq_iff_eq, Bool.not_eq_true', decide_eq_true_eq] at h5
  obtain ⟨⟨⟨⟨⟨g1, g2⟩, g3⟩, g4⟩, g5⟩, g6⟩ := h5
  simp [Cond.before, Cond.holds, Cond.value, h1, h2, h3, h4, g1, g2, g3, g4, g5, g6]
def isCode : Jvm.Cond → Bool
  | .code _ _ _ _ => true
  | _ => false
theorem all_split {L : List Jvm.Cond} {P : Jvm.Cond → Bool} (h1 : L.all (fun c => isCode c || P c) = true) (h2 : ∀ c ∈ L.filter isCode, P c = true) : L.all P = true := by
  refine List.all_eq_true.mpr fun c hc => ?_
  have h := List.all_eq_true.mp h1 c hc
  rcases Bool.eq_false_or_eq_true (isCode c) with hi | hi
  · exact h2 c (List.mem_filter.mpr ⟨hc, hi⟩)
  · simpa [hi] using h
set_option maxRecDepth 65536 in
theorem w_c0 : (Jvm.Cond.code x code maxLocals ret).before args0 about1 = true := code_word (m := ⟨1, 2⟩) (meth := k1m2) (c := k1c2) (by decide +kernel) rfl rfl rfl (by decide +kernel)
set_option maxRecDepth 65536 in
theorem w_c1 : (Jvm.Cond.code ({ cls := "com/example/lachesis/lachesis/core/solver/BlockEquationsIsFinitePinLaw", name := "element", desc := "(II)D" } : Jvm.MethodName) method_2_code (4 : Nat) (Option.some Jvm.ClassFile.FieldType.double)).before args0 about1 = true := code_word (m := ⟨1, 1⟩) (meth := k1m1) (c := k1c1) (by decide +kernel) rfl rfl rfl (by decide +kernel)
set_option maxRecDepth 65536 in
theorem w_c2 : (Jvm.Cond.code ({ cls := "com/example/lachesis/lachesis/core/solver/BlockEquations", name := "isFinite", desc := "([D)Z" } : Jvm.MethodName) prog_87_method_8_code (3 : Nat) (Option.some Jvm.ClassFile.FieldType.boolean)).before args0 about1 = true := code_word (m := ⟨2, 0⟩) (meth := k2m0) (c := k2c0) (by decide +kernel) rfl rfl rfl (by decide +kernel)
def codes1 : List Jvm.Cond := [Jvm.Cond.code x code maxLocals ret, Jvm.Cond.code ({ cls := "com/example/lachesis/lachesis/core/solver/BlockEquationsIsFinitePinLaw", name := "element", desc := "(II)D" } : Jvm.MethodName) method_2_code (4 : Nat) (Option.some Jvm.ClassFile.FieldType.double), Jvm.Cond.code ({ cls := "com/example/lachesis/lachesis/core/solver/BlockEquations", name := "isFinite", desc := "([D)Z" } : Jvm.MethodName) prog_87_method_8_code (3 : Nat) (Option.some Jvm.ClassFile.FieldType.boolean)]
set_option maxRecDepth 65536 in
theorem codes_eq : words1.filter isCode = codes1 := rfl
theorem w_codes : ∀ c ∈ words1.filter isCode, c.before args0 about1 = true := by
  rw [codes_eq]
  intro c hc
  simp only [codes1, List.mem_cons, List.not_mem_nil, or_false] at hc
  rcases hc with rfl | rfl | rfl
  · exact w_c0
  · exact w_c1
  · exact w_c2
set_option maxRecDepth 65536 in
theorem w_t1 : words1.all (fun c => isCode c || c.before args0 about1) = true := by decide +kernel
theorem w_tables : (allAtoms (Jvm.Cond.code x code maxLocals ret :: tables_1)).before args0 about1 = true := by
  rw [allAtoms_all]
  show words1.all (fun c => c.before args0 about1) = true
  refine all_split ?_ w_codes
  rw [w_t1]
set_option maxRecDepth 65536 in
theorem w_case : (Jvm.Cond.and given_1 narrow_1).before args0 about1 = true := by decide +kernel
theorem w_applies : (headSpec (Jvm.Cond.code x code maxLocals ret :: tables_1) room_1).applies x e0.platform about1 = true :=
  (Spec.applies_iff w_frames).mpr ⟨w_running, w_runnable, w_alone, w_named, w_hears, w_ripe, w_room, w_tables⟩
theorem atStart : AtStart classFile x code maxLocals ret World_1 tables_1 room_1 Calls_1 rest_1 Pre_1 launch0 p0 e0 about1 theMethod args0 below0 :=
  ⟨lists_1, trivial, launch0.admits_env _ _ _, launch0.least_env, fairChoices_fair.cas, fairChoices_fair.clock, w_frames, w_args, w_heap, w_applies, trivial, trivial, w_case⟩
end start1
theorem witness_1 : WitnessClaimed_1 := ⟨start1.p0, start1.e0, start1.about1, start1.theMethod, start1.args0, start1.below0, start1.atStart⟩
end Jvm.Pilot.@@N@@
