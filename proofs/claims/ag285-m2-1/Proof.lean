import JvmDerived
import JvmDerived.Pilot.@@N@@Statement
import JvmDerived.Pilot.@@N@@Code
set_option linter.unusedVariables false
set_option linter.unusedSimpArgs false
namespace Jvm.Pilot.@@N@@
open Jvm Jvm.ClassFile Sem Op Lib Jvm.Free Jvm.Stand Jvm.LawKit Jvm.RoadKit Bundle Jvm.Pilot.@@N@@.Jvm.D
def own_Ends (tb : Tables) (e : Env) (below : List Frame) (P : Outcome → State → Prop) (S : State) : Prop := ∃ t o, Steps tb e below S t ∧ t.status = .running ∧ Ended t below o ∧ P o t
theorem own_to {tb : Tables} {e : Env} {below : List Frame} {P : Outcome → State → Prop} {S S' : State} (h : ∀ target, Steps tb e below S' target → Steps tb e below S target) (g : own_Ends tb e below P S') : own_Ends tb e below P S := by
  obtain ⟨t, o, h1, r⟩ := g
  exact ⟨t, o, h _ h1, r⟩
theorem own_tr {tb : Tables} {e : Env} {below : List Frame} {P : Outcome → State → Prop} {S S' : State} (h : Steps tb e below S S') (g : own_Ends tb e below P S') : own_Ends tb e below P S := by
  obtain ⟨t, o, h1, r⟩ := g
  exact ⟨t, o, h.trans h1, r⟩
theorem own_cast {tb : Tables} {e : Env} {below : List Frame} {P : Outcome → State → Prop} {T : State} {f f' : JFrame} (q : f = f') (g : own_Ends tb e below P (T.setTop f')) : own_Ends tb e below P (T.setTop f) := q ▸ g
def own_P (s : State) (Q : Option Value → Heap → List Loc → Prop) (ck sk : Nat) : Outcome → State → Prop := fun o U' => ∃ v L, o = .returned v ∧ Q v U'.heap L ∧ FrameEnd s o U' L ck sk
theorem own_leave {p : Program} {l : Launch} {e : Env} {R : Room} {s : State} {m : MethodId} {args : Array Value} {below : List Frame} {meth : Method} {c : Code} {T : State} {locs : List Loc} {cells slots : Nat} {F : JFrame} {Q : Option Value → Heap → List Loc → Prop} {ck sk : Nat}
    (X : Stand p l e R s m args below meth c T locs cells slots) {v : Option Value} (hv : meth.sig.returnType = none → v = none) (hQ : Q v T.heap locs) (hc : cells ≤ ck) (hs : slots ≤ sk)
    (hst : ∀ fs, (∀ (f : JFrame) (acts : List Action), f.method = m → f.locked = none → f.entered = [] → (doReturn e (T.setTop f) acts v).1 = T.setFrames fs) → Steps p.tables e below (T.setTop F) (T.setFrames fs)) (hlocks : meth.locks = false := by first | assumption | exact BodyLoose.notSynchronized (by assumption) | exact Body.notSynchronized (by assumption)) : own_Ends p.tables e below (own_P s Q ck sk) (T.setTop F) := by
  obtain ⟨fs, hr, hrun, hended, hW, hsame⟩ := X.leave hv hlocks
  exact ⟨_, _, hst fs hr, hrun, hended, _, _, rfl, hQ, ⟨_, rfl⟩, hW, hsame.mono hc hs⟩
def own_PW (s : State) (Q : Option Value → Heap → List Loc → Prop) (ck sk : Nat) : Outcome → State → Prop := fun o U' => ∃ v L, o = .returned v ∧ Q v U'.heap L ∧ ReturnedEndW s o U' L ck sk
theorem own_leaveW {p : Program} {l : Launch} {e : Env} {R : Room} {s : State} {vm1 : Vm} {m : MethodId} {args : Array Value} {below : List Frame} {meth : Method} {c : Code} {T : State} {locs : List Loc} {cells slots : Nat} {F : JFrame} {Q : Option Value → Heap → List Loc → Prop} {ck sk k0 : Nat}
    (X : Stand p l e R (s.setVm vm1) m args below meth c T locs cells slots) (hS : s.Since vm1 k0) (hk : k0 ≤ T.heap.size) {v : Option Value} (hv : meth.sig.returnType = none → v = none) (hQ : Q v T.heap locs) (hc : cells ≤ ck) (hs : slots ≤ sk)
    (hst : ∀ fs, (∀ (f : JFrame) (acts : List Action), f.method = m → f.locked = none → f.entered = [] → (doReturn e (T.setTop f) acts v).1 = T.setFrames fs) → Steps p.tables e below (T.setTop F) (T.setFrames fs)) (hlocks : meth.locks = false := by first | assumption | exact BodyLoose.notSynchronized (by assumption) | exact Body.notSynchronized (by assumption)) : own_Ends p.tables e below (own_PW s Q ck sk) (T.setTop F) := by
  obtain ⟨fs, hr, hrun, hended, h1, h2, h3, h4⟩ := X.leaveW hS hk hv hlocks
  exact ⟨_, _, hst fs hr, hrun, hended, _, _, rfl, hQ, h1, h2, h3, h4.mono hc hs⟩
theorem own_old_le {Z : State} {n0 : Nat} {h : Heap} (O : Old Z n0 h) : n0 ≤ h.size := O.1 ▸ O.2.1
theorem own_le {a b : Nat} (h : Nat.ble a b = true) : a ≤ b := Nat.le_of_ble_eq_true h
theorem own_lt {a b : Nat} (h : Nat.ble (a + 1) b = true) : a < b := Nat.le_of_ble_eq_true h
theorem own_irr (x : Int32) : ¬ x < x := by rw [Int32.lt_iff_toInt_lt]; omega
theorem own_eqI {args : Array Value} {s : State} {t : Term} {k : Int32} (h : (Jvm.Cond.eq t (.int k)).value args s none s [] = some true) : t.eval args s none [] s = some (.int k) := by
  obtain ⟨x, y, hx, hy, -, hk⟩ := cmp_v (Or.inl h)
  cases (show some (Value.int k) = some y from hy)
  obtain ⟨z, rfl⟩ := hk
  have e : (Term.int k).eval args s none [] s = some (.int k) := rfl
  simp only [Cond.value, hx, e, Option.some.injEq, decide_eq_true_eq] at h
  rw [hx]
  simp_all
theorem own_intne {a b : Int32} (h : a ≠ b) : Value.int a ≠ Value.int b := fun q => h (Value.int.inj q)

abbrev oM0 : MethodName := ⟨"java/lang/Enum", "ordinal", "()I"⟩
abbrev oM1 : MethodName := ⟨"com/example/ship_shore_exchange/shipshoreexchange/model/Repetition$NumRepetitions", "wantsRepeatAfter", "(I)Z"⟩
abbrev oM2 : MethodName := ⟨"com/example/ship_shore_exchange/shipshoreexchange/model/Repetition$NumRepetitions", "ordinal", "()I"⟩
theorem ow0 {Z : State} {a0 : Array Value} (hw : ∀ d ∈ tables_1, d.before a0 Z = true) : (Jvm.Cond.constant "com/example/ship_shore_exchange/shipshoreexchange/model/NumRepetitionsWantsRepeatAfterPinLaw" (7 : Nat) (2147483647 : Int32)).before a0 Z = true := hw _ (List.mem_of_getElem? (i := 0) rfl)
theorem ow1 {Z : State} {a0 : Array Value} (hw : ∀ d ∈ tables_1, d.before a0 Z = true) : (Jvm.Cond.fieldLink "com/example/ship_shore_exchange/shipshoreexchange/model/NumRepetitionsWantsRepeatAfterPinLaw" (8 : Nat) "com/example/ship_shore_exchange/shipshoreexchange/model/Repetition$NumRepetitions" "ONCE" "Lcom/example/ship_shore_exchange/shipshoreexchange/model/Repetition$NumRepetitions;").before a0 Z = true := hw _ (List.mem_of_getElem? (i := 1) rfl)
theorem ow2 {Z : State} {a0 : Array Value} (hw : ∀ d ∈ tables_1, d.before a0 Z = true) : (Jvm.Cond.initialized "com/example/ship_shore_exchange/shipshoreexchange/model/Repetition$NumRepetitions").before a0 Z = true := hw _ (List.mem_of_getElem? (i := 2) rfl)
theorem ow3 {Z : State} {a0 : Array Value} (hw : ∀ d ∈ tables_1, d.before a0 Z = true) : (Jvm.Cond.laysStatic "com/example/ship_shore_exchange/shipshoreexchange/model/Repetition$NumRepetitions" "ONCE" "Lcom/example/ship_shore_exchange/shipshoreexchange/model/Repetition$NumRepetitions;").before a0 Z = true := hw _ (List.mem_of_getElem? (i := 3) rfl)
theorem ow4 {Z : State} {a0 : Array Value} (hw : ∀ d ∈ tables_1, d.before a0 Z = true) : (Jvm.Cond.methodLink "com/example/ship_shore_exchange/shipshoreexchange/model/NumRepetitionsWantsRepeatAfterPinLaw" (20 : Nat) ({ cls := "com/example/ship_shore_exchange/shipshoreexchange/model/Repetition$NumRepetitions", name := "wantsRepeatAfter", desc := "(I)Z" } : Jvm.MethodName)).before a0 Z = true := hw _ (List.mem_of_getElem? (i := 4) rfl)
theorem ow5 {Z : State} {a0 : Array Value} (hw : ∀ d ∈ tables_1, d.before a0 Z = true) : (Jvm.Cond.declares ({ cls := "com/example/ship_shore_exchange/shipshoreexchange/model/Repetition$NumRepetitions", name := "wantsRepeatAfter", desc := "(I)Z" } : Jvm.MethodName)).before a0 Z = true := hw _ (List.mem_of_getElem? (i := 5) rfl)
theorem ow6 {Z : State} {a0 : Array Value} (hw : ∀ d ∈ tables_1, d.before a0 Z = true) : (Jvm.Cond.instanceMethod ({ cls := "com/example/ship_shore_exchange/shipshoreexchange/model/Repetition$NumRepetitions", name := "wantsRepeatAfter", desc := "(I)Z" } : Jvm.MethodName)).before a0 Z = true := hw _ (List.mem_of_getElem? (i := 6) rfl)
theorem ow7 {Z : State} {a0 : Array Value} (hw : ∀ d ∈ tables_1, d.before a0 Z = true) : (Jvm.Cond.selects "com/example/ship_shore_exchange/shipshoreexchange/model/Repetition$NumRepetitions" ({ cls := "com/example/ship_shore_exchange/shipshoreexchange/model/Repetition$NumRepetitions", name := "wantsRepeatAfter", desc := "(I)Z" } : Jvm.MethodName) ({ cls := "com/example/ship_shore_exchange/shipshoreexchange/model/Repetition$NumRepetitions", name := "wantsRepeatAfter", desc := "(I)Z" } : Jvm.MethodName)).before a0 Z = true := hw _ (List.mem_of_getElem? (i := 7) rfl)
theorem ow8 {Z : State} {a0 : Array Value} (hw : ∀ d ∈ tables_1, d.before a0 Z = true) : (Jvm.Cond.code ({ cls := "com/example/ship_shore_exchange/shipshoreexchange/model/Repetition$NumRepetitions", name := "wantsRepeatAfter", desc := "(I)Z" } : Jvm.MethodName) prog_9_method_4_code (3 : Nat) (Option.some Jvm.ClassFile.FieldType.boolean)).before a0 Z = true := hw _ (List.mem_of_getElem? (i := 8) rfl)
theorem ow9 {Z : State} {a0 : Array Value} (hw : ∀ d ∈ tables_1, d.before a0 Z = true) : (Jvm.Cond.methodLink "com/example/ship_shore_exchange/shipshoreexchange/model/Repetition$NumRepetitions" (32 : Nat) ({ cls := "com/example/ship_shore_exchange/shipshoreexchange/model/Repetition$NumRepetitions", name := "ordinal", desc := "()I" } : Jvm.MethodName)).before a0 Z = true := hw _ (List.mem_of_getElem? (i := 9) rfl)
theorem ow10 {Z : State} {a0 : Array Value} (hw : ∀ d ∈ tables_1, d.before a0 Z = true) : (Jvm.Cond.sameMethod "com/example/ship_shore_exchange/shipshoreexchange/model/Repetition$NumRepetitions" "java/lang/Enum" "ordinal" "()I").before a0 Z = true := hw _ (List.mem_of_getElem? (i := 10) rfl)
theorem ow11 {Z : State} {a0 : Array Value} (hw : ∀ d ∈ tables_1, d.before a0 Z = true) : (Jvm.Cond.declares ({ cls := "java/lang/Enum", name := "ordinal", desc := "()I" } : Jvm.MethodName)).before a0 Z = true := hw _ (List.mem_of_getElem? (i := 11) rfl)
theorem ow12 {Z : State} {a0 : Array Value} (hw : ∀ d ∈ tables_1, d.before a0 Z = true) : (Jvm.Cond.instanceMethod ({ cls := "java/lang/Enum", name := "ordinal", desc := "()I" } : Jvm.MethodName)).before a0 Z = true := hw _ (List.mem_of_getElem? (i := 12) rfl)
theorem ow13 {Z : State} {a0 : Array Value} (hw : ∀ d ∈ tables_1, d.before a0 Z = true) : (Jvm.Cond.selects "com/example/ship_shore_exchange/shipshoreexchange/model/Repetition$NumRepetitions" ({ cls := "com/example/ship_shore_exchange/shipshoreexchange/model/Repetition$NumRepetitions", name := "ordinal", desc := "()I" } : Jvm.MethodName) ({ cls := "java/lang/Enum", name := "ordinal", desc := "()I" } : Jvm.MethodName)).before a0 Z = true := hw _ (List.mem_of_getElem? (i := 13) rfl)
theorem ow14 {Z : State} {a0 : Array Value} (hw : ∀ d ∈ tables_1, d.before a0 Z = true) : (Jvm.Cond.initialized "java/lang/Enum").before a0 Z = true := hw _ (List.mem_of_getElem? (i := 14) rfl)
theorem ow15 {Z : State} {a0 : Array Value} (hw : ∀ d ∈ tables_1, d.before a0 Z = true) : (Jvm.Cond.code ({ cls := "java/lang/Enum", name := "ordinal", desc := "()I" } : Jvm.MethodName) jdk_37_method_2_code (1 : Nat) (Option.some Jvm.ClassFile.FieldType.int)).before a0 Z = true := hw _ (List.mem_of_getElem? (i := 15) rfl)
theorem ow16 {Z : State} {a0 : Array Value} (hw : ∀ d ∈ tables_1, d.before a0 Z = true) : (Jvm.Cond.fieldLink "java/lang/Enum" (7 : Nat) "java/lang/Enum" "ordinal" "I").before a0 Z = true := hw _ (List.mem_of_getElem? (i := 16) rfl)
theorem ow18 {Z : State} {a0 : Array Value} (hw : ∀ d ∈ tables_1, d.before a0 Z = true) : (Jvm.Cond.fieldLink "com/example/ship_shore_exchange/shipshoreexchange/model/NumRepetitionsWantsRepeatAfterPinLaw" (17 : Nat) "com/example/ship_shore_exchange/shipshoreexchange/model/Repetition$NumRepetitions" "TILL_CANCELLED" "Lcom/example/ship_shore_exchange/shipshoreexchange/model/Repetition$NumRepetitions;").before a0 Z = true := hw _ (List.mem_of_getElem? (i := 18) rfl)
theorem ow19 {Z : State} {a0 : Array Value} (hw : ∀ d ∈ tables_1, d.before a0 Z = true) : (Jvm.Cond.laysStatic "com/example/ship_shore_exchange/shipshoreexchange/model/Repetition$NumRepetitions" "TILL_CANCELLED" "Lcom/example/ship_shore_exchange/shipshoreexchange/model/Repetition$NumRepetitions;").before a0 Z = true := hw _ (List.mem_of_getElem? (i := 19) rfl)
theorem ow20 {Z : State} {a0 : Array Value} (hw : ∀ d ∈ tables_1, d.before a0 Z = true) : (Jvm.Cond.fieldLink "com/example/ship_shore_exchange/shipshoreexchange/model/NumRepetitionsWantsRepeatAfterPinLaw" (14 : Nat) "com/example/ship_shore_exchange/shipshoreexchange/model/Repetition$NumRepetitions" "TWICE" "Lcom/example/ship_shore_exchange/shipshoreexchange/model/Repetition$NumRepetitions;").before a0 Z = true := hw _ (List.mem_of_getElem? (i := 20) rfl)
theorem ow21 {Z : State} {a0 : Array Value} (hw : ∀ d ∈ tables_1, d.before a0 Z = true) : (Jvm.Cond.laysStatic "com/example/ship_shore_exchange/shipshoreexchange/model/Repetition$NumRepetitions" "TWICE" "Lcom/example/ship_shore_exchange/shipshoreexchange/model/Repetition$NumRepetitions;").before a0 Z = true := hw _ (List.mem_of_getElem? (i := 21) rfl)
theorem own_mod3 (x : Int32) : (x &&& (2147483647 : Int32)) % (3 : Int32) = 0 ∨ (x &&& (2147483647 : Int32)) % (3 : Int32) = 1 ∨ (x &&& (2147483647 : Int32)) % (3 : Int32) = 2 := by
  have h := c_and x 2147483647 (by decide)
  have g := (c_irem (x &&& 2147483647) 3 3 (by decide)).1 h.1
  simp only [← Int32.toInt_inj, show (0 : Int32).toInt = 0 by decide, show (1 : Int32).toInt = 1 by decide, show (2 : Int32).toInt = 2 by decide]
  omega
theorem own_lt_dec (p k : Int32) (j : Int) (hk : k.toInt = j) : (p < k) ↔ p.toInt < j := by rw [Int32.lt_iff_toInt_lt, hk]
theorem own_gt_dec (p k : Int32) (j : Int) (hk : k.toInt = j) : (k < p) ↔ j < p.toInt := by rw [Int32.lt_iff_toInt_lt, hk]
def own_w (p k : Int32) : Int32 := if p < k then 1 else 0
theorem own_w_y {p k : Int32} (h : p < k) : own_w p k = 1 := if_pos h
theorem own_w_n {p k : Int32} (h : ¬ p < k) : own_w p k = 0 := if_neg h
theorem own_le0 {p : Int32} (h : ¬ (0 : Int32) < p) : p < 1 := by rw [own_gt_dec p 0 0 (by decide)] at h; rw [own_lt_dec p 1 1 (by decide)]; omega
theorem own_gt0 {p : Int32} (h : (0 : Int32) < p) : ¬ p < 1 := by rw [own_gt_dec p 0 0 (by decide)] at h; rw [own_lt_dec p 1 1 (by decide)]; omega
theorem own_le1 {p : Int32} (h : ¬ (1 : Int32) < p) : p < 2 := by rw [own_gt_dec p 1 1 (by decide)] at h; rw [own_lt_dec p 2 2 (by decide)]; omega
theorem own_gt1 {p : Int32} (h : (1 : Int32) < p) : ¬ p < 2 := by rw [own_gt_dec p 1 1 (by decide)] at h; rw [own_lt_dec p 2 2 (by decide)]; omega
theorem d2_0 : decode jdk_37_method_2_code 0 = .ok (.aload_n 0, 1) := by decide +kernel
theorem d2_1 : decode jdk_37_method_2_code 1 = .ok (.getfield 7, 3) := by decide +kernel
theorem d2_4 : decode jdk_37_method_2_code 4 = .ok (.ireturn, 1) := by decide +kernel
theorem pn_2 : plainName "java/lang/Enum" = true := by first | (simp [plainName, overriddenIn]; done) | decide +kernel
theorem ef_rmO (m : MethodId) (a : Addr) : entryFrame m #[(.ref a)] 1 = mkF m 0 #[.val (.ref a)] [] := by first | (simp [entryFrame, mkF, argsToLocals, Value.category]; done) | rfl | (rcases ref_cases hrf with rfl | ⟨q, rfl⟩ <;> rfl)
def Q_rmO (Z : State) (a : Addr) (k : Int32) (h0 : Heap) (n0 : Nat) (v : Option Value) (h : Heap) (L : List Loc) : Prop := v = some (.int k) ∧ Fr n0 L ∧ h = h0
set_option maxRecDepth 65536 in
set_option maxHeartbeats 40000000 in
theorem rmO (l : Launch) (Z : State) (a0 : Array Value) (hw : ∀ d ∈ tables_1, d.before a0 Z = true) (ws : List Jvm.Cond) (a : Addr) (k : Int32) (h0 : Heap) (n0 : Nat) (O0 : Old Z n0 h0) (F_a : Fld Z Z.heap a "java/lang/Enum" "ordinal" "I" (.int k)) :
    MetFree l oM0 (head1 (Jvm.Cond.code oM0 jdk_37_method_2_code 1 (some .int) :: ws) ({ frames := 0, cells := 0, slots := 0, locals := 0 } : Room)) (fun aq_ U => aq_ = #[(.ref a)] ∧ Z.Warmed39 U.vm ∧ U.heap = h0) (fun _ _ _ _ _ => True) (fun _ U o U' => ∃ v L, o = .returned v ∧ Q_rmO Z a k h0 n0 v U'.heap L ∧ FrameEnd U o U' L ({ frames := 0, cells := 0, slots := 0, locals := 0 } : Room).cells ({ frames := 0, cells := 0, slots := 0, locals := 0 } : Room).slots) := by
  refine MetFree.of_bodySF (plainFor_of_name pn_2) hisR ?_
  intro p e s m args below meth c s₁ Bd hml0 hP hK
  obtain ⟨rfl, hZ, hh⟩ := hP
  have hx := Bd.exec
  have hby := Bd.bytes
  have hml : c.maxLocals = 1 := hml0
  have hown : s.vm.findClass "java/lang/Enum" = some m.cls := findClass_of_methodNamed Bd.named
  have hnm := (name_of_methodNamed Bd.named Bd.method).1
  have X0 : Stand p l e ({ frames := 0, cells := 0, slots := 0, locals := 0 } : Room) s m #[(.ref a)] below meth c s₁ [] 0 0 := Stand.of_body Bd
  have e0 : s₁.heap = h0 := by rw [← hh, Bd.state]; rfl
  have N0 := Fr.nil n0
  show own_Ends p.tables e below (own_P s (Q_rmO Z a k h0 n0) ({ frames := 0, cells := 0, slots := 0, locals := 0 } : Room).cells ({ frames := 0, cells := 0, slots := 0, locals := 0 } : Room).slots) _
  refine own_cast (ef_rmO m a) ?_
  show own_Ends _ _ _ _ (s₁.setTop (mkF m 0 #[.val (.ref a)] []))
  refine own_to (fun _ kont => XS.aloadN X0.here hx rfl (hb hby d2_0) rfl rfl kont) ?_
  show own_Ends _ _ _ _ (s₁.setTop (mkF m 1 #[.val (.ref a)] [(.ref a)]))
  obtain ⟨T1, X1, e1, st1⟩ := getF X0 hx hZ hown (host := "") (Or.inl (ow16 hw)) Via.refl e0 (F_a.ext O0.2) (g := (mkF m 1 #[.val (.ref a)] [(.ref a)])) rfl rfl (hb hby d2_1)
  refine own_to st1 ?_
  show own_Ends _ _ _ _ (T1.setTop (mkF m 4 #[.val (.ref a)] [(.int k)]))
  refine own_leave X1 (v := some (.int k)) (fun h => by rw [Bd.returns] at h; cases h) ?_ (by decide) (by decide) (fun fs hr => retOut X1 hx Bd.returns rfl (Or.inl ⟨rfl, Or.inl rfl, _, rfl⟩) (hb hby d2_4) hr)
  show Q_rmO Z a k h0 n0 _ T1.heap _
  rw [e1]
  exact ⟨rfl, N0, rfl⟩
theorem d1_0 : decode prog_9_method_4_code 0 = .ok (.aload_n 0, 1) := by decide +kernel
theorem d1_1 : decode prog_9_method_4_code 1 = .ok (.invokevirtual 32, 3) := by decide +kernel
theorem d1_4 : decode prog_9_method_4_code 4 = .ok (.tableswitch 28 0 2 #[38, 51, 64], 28) := by decide +kernel
theorem d1_42 : decode prog_9_method_4_code 42 = .ok (.iload_n 1, 1) := by decide +kernel
theorem d1_43 : decode prog_9_method_4_code 43 = .ok (.iconst 1, 1) := by decide +kernel
theorem d1_44 : decode prog_9_method_4_code 44 = .ok (.if_icmp .ge 7, 3) := by decide +kernel
theorem d1_47 : decode prog_9_method_4_code 47 = .ok (.iconst 1, 1) := by decide +kernel
theorem d1_48 : decode prog_9_method_4_code 48 = .ok (.goto 21, 3) := by decide +kernel
theorem d1_51 : decode prog_9_method_4_code 51 = .ok (.iconst 0, 1) := by decide +kernel
theorem d1_52 : decode prog_9_method_4_code 52 = .ok (.goto 17, 3) := by decide +kernel
theorem d1_69 : decode prog_9_method_4_code 69 = .ok (.istore_n 2, 1) := by decide +kernel
theorem d1_70 : decode prog_9_method_4_code 70 = .ok (.iload_n 2, 1) := by decide +kernel
theorem d1_71 : decode prog_9_method_4_code 71 = .ok (.ireturn, 1) := by decide +kernel
theorem pn_1 : plainName "com/example/ship_shore_exchange/shipshoreexchange/model/Repetition$NumRepetitions" = true := by first | (simp [plainName, overriddenIn]; done) | decide +kernel
theorem pd_0 : parseMethodDescriptor "()I" = some ⟨[], some .int⟩ := by decide +kernel
theorem ef_rmW0 (m : MethodId) (a : Addr) (z2 : Int32) : entryFrame m #[(.ref a), (.int z2)] 3 = mkF m 0 #[.val (.ref a), .val (.int z2), .unset] [] := by first | (simp [entryFrame, mkF, argsToLocals, Value.category]; done) | rfl | (rcases ref_cases hrf with rfl | ⟨q, rfl⟩ <;> rfl)
def Q_rmW0 (Z : State) (a : Addr) (z2 : Int32)  (h0 : Heap) (n0 : Nat) (v : Option Value) (h : Heap) (L : List Loc) : Prop := v = some (.int (own_w z2 1)) ∧ Fr n0 L ∧ h = h0
set_option maxRecDepth 65536 in
set_option maxHeartbeats 40000000 in
theorem rmW0 (l : Launch) (Z : State) (a0 : Array Value) (hw : ∀ d ∈ tables_1, d.before a0 Z = true) (ws : List Jvm.Cond) (a : Addr) (z2 : Int32)  (h0 : Heap) (n0 : Nat) (O0 : Old Z n0 h0) (E_a : Exa Z Z.heap a "com/example/ship_shore_exchange/shipshoreexchange/model/Repetition$NumRepetitions") (F_a : Fld Z Z.heap a "java/lang/Enum" "ordinal" "I" (.int (0 : Int32))) :
    MetFree l oM1 (head1 (Jvm.Cond.code oM1 prog_9_method_4_code 3 (some .boolean) :: ws) ({ frames := 1, cells := 0, slots := 0, locals := 12 } : Room)) (fun aq_ U => aq_ = #[(.ref a), (.int z2)] ∧ Z.Warmed39 U.vm ∧ U.heap = h0) (fun _ _ _ _ _ => True) (fun _ U o U' => ∃ v L, o = .returned v ∧ Q_rmW0 Z a z2 h0 n0 v U'.heap L ∧ FrameEnd U o U' L ({ frames := 1, cells := 0, slots := 0, locals := 12 } : Room).cells ({ frames := 1, cells := 0, slots := 0, locals := 12 } : Room).slots) := by
  refine MetFree.of_bodySF (plainFor_of_name pn_1) hisR ?_
  intro p e s m args below meth c s₁ Bd hml0 hP hK
  obtain ⟨rfl, hZ, hh⟩ := hP
  have hx := Bd.exec
  have hby := Bd.bytes
  have hml : c.maxLocals = 3 := hml0
  have hown : s.vm.findClass "com/example/ship_shore_exchange/shipshoreexchange/model/Repetition$NumRepetitions" = some m.cls := findClass_of_methodNamed Bd.named
  have hnm := (name_of_methodNamed Bd.named Bd.method).1
  have X0 : Stand p l e ({ frames := 1, cells := 0, slots := 0, locals := 12 } : Room) s m #[(.ref a), (.int z2)] below meth c s₁ [] 0 0 := Stand.of_body Bd
  have e0 : s₁.heap = h0 := by rw [← hh, Bd.state]; rfl
  have N0 := Fr.nil n0
  show own_Ends p.tables e below (own_P s (Q_rmW0 Z a z2 h0 n0) ({ frames := 1, cells := 0, slots := 0, locals := 12 } : Room).cells ({ frames := 1, cells := 0, slots := 0, locals := 12 } : Room).slots) _
  refine own_cast (ef_rmW0 m a z2) ?_
  show own_Ends _ _ _ _ (s₁.setTop (mkF m 0 #[.val (.ref a), .val (.int z2), .unset] []))
  refine own_to (fun _ kont => XS.aloadN X0.here hx rfl (hb hby d1_0) rfl rfl kont) ?_
  show own_Ends _ _ _ _ (s₁.setTop (mkF m 1 #[.val (.ref a), .val (.int z2), .unset] [(.ref a)]))
  obtain ⟨cq1, kq1, q1a, q1b, q1c⟩ := isOf hZ e0 (E_a.ext O0.2)
  obtain ⟨_, _, ⟨T1, L1, k1, n1⟩, -, X1, ⟨Lc1, hQ1, l1, y1, z1⟩, st1⟩ := X0.virtualBackUp hx (owner := "java/lang/Enum") (x := oM2) (y := oM0) hown (mvT hZ (ow9 hw)) (mvT hZ (ow10 hw)) (mvT hZ (ow11 hw)) (by decide) (mvT hZ (ow13 hw)) (mvT hZ (ow12 hw)) (backOf (W := 0) (rmO l Z a0 hw [] a (0 : Int32) h0 n0 O0 F_a) hZ (ow15 hw) (ow14 hw) (by decide) (by decide)) q1a q1c (g := (mkF m 1 #[.val (.ref a), .val (.int z2), .unset] [(.ref a)])) rfl (by rw [hml]; rfl) (Steps.refl _) (argsL := []) (rest := []) (lenOf pd_0 rfl) rfl (by show 2 * 0 + _ ≤ _; exact Nat.le_of_eq rfl) (hb hby d1_1) (fun _ _ => ⟨rfl, e0, (own_le rfl), (own_le rfl)⟩)
  dsimp only [Pt.U, Pt.locs, Pt.cells, Pt.slots] at X1 l1 y1 z1 st1 hQ1
  subst l1 y1 z1
  obtain ⟨rfl, N1q, E1⟩ := hQ1
  have N1 := Fr.app N0 N1q
  refine own_tr st1 ?_
  show own_Ends _ _ _ _ (T1.setTop (mkF m 4 #[.val (.ref a), .val (.int z2), .unset] [(.int 0)]))
  refine own_to (fun _ kont => XS.tswIn X1.here hx rfl (pc0 := 4) (pc' := 42) (o := 38) rfl (hb hby d1_4) rfl (by decide) (by decide) (by decide) (by decide) kont) ?_
  show own_Ends _ _ _ _ (T1.setTop (mkF m 42 #[.val (.ref a), .val (.int z2), .unset] []))
  refine own_to (fun _ kont => XS.iloadN X1.here hx rfl (hb hby d1_42) rfl kont) ?_
  show own_Ends _ _ _ _ (T1.setTop (mkF m 43 #[.val (.ref a), .val (.int z2), .unset] [(.int z2)]))
  refine own_to (fun _ kont => XS.iconst X1.here hx rfl (hb hby d1_43) kont) ?_
  show own_Ends _ _ _ _ (T1.setTop (mkF m 44 #[.val (.ref a), .val (.int z2), .unset] [(.int 1), (.int z2)]))
  by_cases hc44_2 : z2 < (1 : Int32)
  · -- pc 44: z2 < (1 : Int32)
    refine own_to (fun _ kont => XS.icmpNo X1.here hx rfl (hb hby d1_44) rfl (tlt hc44_2).2.1 kont) ?_
    show own_Ends _ _ _ _ (T1.setTop (mkF m 47 #[.val (.ref a), .val (.int z2), .unset] []))
    refine own_to (fun _ kont => XS.iconst X1.here hx rfl (hb hby d1_47) kont) ?_
    show own_Ends _ _ _ _ (T1.setTop (mkF m 48 #[.val (.ref a), .val (.int z2), .unset] [(.int 1)]))
    refine own_to (fun _ kont => XS.goto X1.here hx rfl (pc0 := 48) (pc' := 69) rfl (hb hby d1_48) (by decide) (by decide) kont) ?_
    show own_Ends _ _ _ _ (T1.setTop (mkF m 69 #[.val (.ref a), .val (.int z2), .unset] [(.int 1)]))
    refine own_to (fun _ kont => XS.istoreN X1.here hx rfl (hb hby d1_69) rfl (l' := #[.val (.ref a), .val (.int z2), .val (.int (1 : Int32))]) rfl kont) ?_
    show own_Ends _ _ _ _ (T1.setTop (mkF m 70 #[.val (.ref a), .val (.int z2), .val (.int 1)] []))
    refine own_to (fun _ kont => XS.iloadN X1.here hx rfl (hb hby d1_70) rfl kont) ?_
    show own_Ends _ _ _ _ (T1.setTop (mkF m 71 #[.val (.ref a), .val (.int z2), .val (.int 1)] [(.int 1)]))
    refine own_leave X1 (v := some (.int (1 : Int32))) (fun h => by rw [Bd.returns] at h; cases h) ?_ (by decide) (by decide) (fun fs hr => retN X1 hx (t := .boolean) Bd.returns (by simp) (hb hby d1_71) hr)
    show Q_rmW0 Z a z2 h0 n0 _ T1.heap _
    rw [E1]
    exact ⟨by simp [own_w, *], N1, rfl⟩
  · -- pc 44: not z2 < (1 : Int32)
    refine own_to (fun _ kont => XS.icmpYes X1.here hx rfl (pc0 := 44) (pc' := 51) rfl (hb hby d1_44) rfl (flt hc44_2).2.1 (by decide) (by decide) kont) ?_
    show own_Ends _ _ _ _ (T1.setTop (mkF m 51 #[.val (.ref a), .val (.int z2), .unset] []))
    refine own_to (fun _ kont => XS.iconst X1.here hx rfl (hb hby d1_51) kont) ?_
    show own_Ends _ _ _ _ (T1.setTop (mkF m 52 #[.val (.ref a), .val (.int z2), .unset] [(.int 0)]))
    refine own_to (fun _ kont => XS.goto X1.here hx rfl (pc0 := 52) (pc' := 69) rfl (hb hby d1_52) (by decide) (by decide) kont) ?_
    show own_Ends _ _ _ _ (T1.setTop (mkF m 69 #[.val (.ref a), .val (.int z2), .unset] [(.int 0)]))
    refine own_to (fun _ kont => XS.istoreN X1.here hx rfl (hb hby d1_69) rfl (l' := #[.val (.ref a), .val (.int z2), .val (.int (0 : Int32))]) rfl kont) ?_
    show own_Ends _ _ _ _ (T1.setTop (mkF m 70 #[.val (.ref a), .val (.int z2), .val (.int 0)] []))
    refine own_to (fun _ kont => XS.iloadN X1.here hx rfl (hb hby d1_70) rfl kont) ?_
    show own_Ends _ _ _ _ (T1.setTop (mkF m 71 #[.val (.ref a), .val (.int z2), .val (.int 0)] [(.int 0)]))
    refine own_leave X1 (v := some (.int (0 : Int32))) (fun h => by rw [Bd.returns] at h; cases h) ?_ (by decide) (by decide) (fun fs hr => retN X1 hx (t := .boolean) Bd.returns (by simp) (hb hby d1_71) hr)
    show Q_rmW0 Z a z2 h0 n0 _ T1.heap _
    rw [E1]
    exact ⟨by simp [own_w, *], N1, rfl⟩
theorem d1_55 : decode prog_9_method_4_code 55 = .ok (.iload_n 1, 1) := by decide +kernel
theorem d1_56 : decode prog_9_method_4_code 56 = .ok (.iconst 2, 1) := by decide +kernel
theorem d1_57 : decode prog_9_method_4_code 57 = .ok (.if_icmp .ge 7, 3) := by decide +kernel
theorem d1_60 : decode prog_9_method_4_code 60 = .ok (.iconst 1, 1) := by decide +kernel
theorem d1_61 : decode prog_9_method_4_code 61 = .ok (.goto 8, 3) := by decide +kernel
theorem d1_64 : decode prog_9_method_4_code 64 = .ok (.iconst 0, 1) := by decide +kernel
theorem d1_65 : decode prog_9_method_4_code 65 = .ok (.goto 4, 3) := by decide +kernel
theorem ef_rmW1 (m : MethodId) (a : Addr) (z2 : Int32) : entryFrame m #[(.ref a), (.int z2)] 3 = mkF m 0 #[.val (.ref a), .val (.int z2), .unset] [] := by first | (simp [entryFrame, mkF, argsToLocals, Value.category]; done) | rfl | (rcases ref_cases hrf with rfl | ⟨q, rfl⟩ <;> rfl)
def Q_rmW1 (Z : State) (a : Addr) (z2 : Int32)  (h0 : Heap) (n0 : Nat) (v : Option Value) (h : Heap) (L : List Loc) : Prop := v = some (.int (own_w z2 2)) ∧ Fr n0 L ∧ h = h0
set_option maxRecDepth 65536 in
set_option maxHeartbeats 40000000 in
theorem rmW1 (l : Launch) (Z : State) (a0 : Array Value) (hw : ∀ d ∈ tables_1, d.before a0 Z = true) (ws : List Jvm.Cond) (a : Addr) (z2 : Int32)  (h0 : Heap) (n0 : Nat) (O0 : Old Z n0 h0) (E_a : Exa Z Z.heap a "com/example/ship_shore_exchange/shipshoreexchange/model/Repetition$NumRepetitions") (F_a : Fld Z Z.heap a "java/lang/Enum" "ordinal" "I" (.int (1 : Int32))) :
    MetFree l oM1 (head1 (Jvm.Cond.code oM1 prog_9_method_4_code 3 (some .boolean) :: ws) ({ frames := 1, cells := 0, slots := 0, locals := 12 } : Room)) (fun aq_ U => aq_ = #[(.ref a), (.int z2)] ∧ Z.Warmed39 U.vm ∧ U.heap = h0) (fun _ _ _ _ _ => True) (fun _ U o U' => ∃ v L, o = .returned v ∧ Q_rmW1 Z a z2 h0 n0 v U'.heap L ∧ FrameEnd U o U' L ({ frames := 1, cells := 0, slots := 0, locals := 12 } : Room).cells ({ frames := 1, cells := 0, slots := 0, locals := 12 } : Room).slots) := by
  refine MetFree.of_bodySF (plainFor_of_name pn_1) hisR ?_
  intro p e s m args below meth c s₁ Bd hml0 hP hK
  obtain ⟨rfl, hZ, hh⟩ := hP
  have hx := Bd.exec
  have hby := Bd.bytes
  have hml : c.maxLocals = 3 := hml0
  have hown : s.vm.findClass "com/example/ship_shore_exchange/shipshoreexchange/model/Repetition$NumRepetitions" = some m.cls := findClass_of_methodNamed Bd.named
  have hnm := (name_of_methodNamed Bd.named Bd.method).1
  have X0 : Stand p l e ({ frames := 1, cells := 0, slots := 0, locals := 12 } : Room) s m #[(.ref a), (.int z2)] below meth c s₁ [] 0 0 := Stand.of_body Bd
  have e0 : s₁.heap = h0 := by rw [← hh, Bd.state]; rfl
  have N0 := Fr.nil n0
  show own_Ends p.tables e below (own_P s (Q_rmW1 Z a z2 h0 n0) ({ frames := 1, cells := 0, slots := 0, locals := 12 } : Room).cells ({ frames := 1, cells := 0, slots := 0, locals := 12 } : Room).slots) _
  refine own_cast (ef_rmW1 m a z2) ?_
  show own_Ends _ _ _ _ (s₁.setTop (mkF m 0 #[.val (.ref a), .val (.int z2), .unset] []))
  refine own_to (fun _ kont => XS.aloadN X0.here hx rfl (hb hby d1_0) rfl rfl kont) ?_
  show own_Ends _ _ _ _ (s₁.setTop (mkF m 1 #[.val (.ref a), .val (.int z2), .unset] [(.ref a)]))
  obtain ⟨cq1, kq1, q1a, q1b, q1c⟩ := isOf hZ e0 (E_a.ext O0.2)
  obtain ⟨_, _, ⟨T1, L1, k1, n1⟩, -, X1, ⟨Lc1, hQ1, l1, y1, z1⟩, st1⟩ := X0.virtualBackUp hx (owner := "java/lang/Enum") (x := oM2) (y := oM0) hown (mvT hZ (ow9 hw)) (mvT hZ (ow10 hw)) (mvT hZ (ow11 hw)) (by decide) (mvT hZ (ow13 hw)) (mvT hZ (ow12 hw)) (backOf (W := 0) (rmO l Z a0 hw [] a (1 : Int32) h0 n0 O0 F_a) hZ (ow15 hw) (ow14 hw) (by decide) (by decide)) q1a q1c (g := (mkF m 1 #[.val (.ref a), .val (.int z2), .unset] [(.ref a)])) rfl (by rw [hml]; rfl) (Steps.refl _) (argsL := []) (rest := []) (lenOf pd_0 rfl) rfl (by show 2 * 0 + _ ≤ _; exact Nat.le_of_eq rfl) (hb hby d1_1) (fun _ _ => ⟨rfl, e0, (own_le rfl), (own_le rfl)⟩)
  dsimp only [Pt.U, Pt.locs, Pt.cells, Pt.slots] at X1 l1 y1 z1 st1 hQ1
  subst l1 y1 z1
  obtain ⟨rfl, N1q, E1⟩ := hQ1
  have N1 := Fr.app N0 N1q
  refine own_tr st1 ?_
  show own_Ends _ _ _ _ (T1.setTop (mkF m 4 #[.val (.ref a), .val (.int z2), .unset] [(.int 1)]))
  refine own_to (fun _ kont => XS.tswIn X1.here hx rfl (pc0 := 4) (pc' := 55) (o := 51) rfl (hb hby d1_4) rfl (by decide) (by decide) (by decide) (by decide) kont) ?_
  show own_Ends _ _ _ _ (T1.setTop (mkF m 55 #[.val (.ref a), .val (.int z2), .unset] []))
  refine own_to (fun _ kont => XS.iloadN X1.here hx rfl (hb hby d1_55) rfl kont) ?_
  show own_Ends _ _ _ _ (T1.setTop (mkF m 56 #[.val (.ref a), .val (.int z2), .unset] [(.int z2)]))
  refine own_to (fun _ kont => XS.iconst X1.here hx rfl (hb hby d1_56) kont) ?_
  show own_Ends _ _ _ _ (T1.setTop (mkF m 57 #[.val (.ref a), .val (.int z2), .unset] [(.int 2), (.int z2)]))
  by_cases hc57_2 : z2 < (2 : Int32)
  · -- pc 57: z2 < (2 : Int32)
    refine own_to (fun _ kont => XS.icmpNo X1.here hx rfl (hb hby d1_57) rfl (tlt hc57_2).2.1 kont) ?_
    show own_Ends _ _ _ _ (T1.setTop (mkF m 60 #[.val (.ref a), .val (.int z2), .unset] []))
    refine own_to (fun _ kont => XS.iconst X1.here hx rfl (hb hby d1_60) kont) ?_
    show own_Ends _ _ _ _ (T1.setTop (mkF m 61 #[.val (.ref a), .val (.int z2), .unset] [(.int 1)]))
    refine own_to (fun _ kont => XS.goto X1.here hx rfl (pc0 := 61) (pc' := 69) rfl (hb hby d1_61) (by decide) (by decide) kont) ?_
    show own_Ends _ _ _ _ (T1.setTop (mkF m 69 #[.val (.ref a), .val (.int z2), .unset] [(.int 1)]))
    refine own_to (fun _ kont => XS.istoreN X1.here hx rfl (hb hby d1_69) rfl (l' := #[.val (.ref a), .val (.int z2), .val (.int (1 : Int32))]) rfl kont) ?_
    show own_Ends _ _ _ _ (T1.setTop (mkF m 70 #[.val (.ref a), .val (.int z2), .val (.int 1)] []))
    refine own_to (fun _ kont => XS.iloadN X1.here hx rfl (hb hby d1_70) rfl kont) ?_
    show own_Ends _ _ _ _ (T1.setTop (mkF m 71 #[.val (.ref a), .val (.int z2), .val (.int 1)] [(.int 1)]))
    refine own_leave X1 (v := some (.int (1 : Int32))) (fun h => by rw [Bd.returns] at h; cases h) ?_ (by decide) (by decide) (fun fs hr => retN X1 hx (t := .boolean) Bd.returns (by simp) (hb hby d1_71) hr)
    show Q_rmW1 Z a z2 h0 n0 _ T1.heap _
    rw [E1]
    exact ⟨by simp [own_w, *], N1, rfl⟩
  · -- pc 57: not z2 < (2 : Int32)
    refine own_to (fun _ kont => XS.icmpYes X1.here hx rfl (pc0 := 57) (pc' := 64) rfl (hb hby d1_57) rfl (flt hc57_2).2.1 (by decide) (by decide) kont) ?_
    show own_Ends _ _ _ _ (T1.setTop (mkF m 64 #[.val (.ref a), .val (.int z2), .unset] []))
    refine own_to (fun _ kont => XS.iconst X1.here hx rfl (hb hby d1_64) kont) ?_
    show own_Ends _ _ _ _ (T1.setTop (mkF m 65 #[.val (.ref a), .val (.int z2), .unset] [(.int 0)]))
    refine own_to (fun _ kont => XS.goto X1.here hx rfl (pc0 := 65) (pc' := 69) rfl (hb hby d1_65) (by decide) (by decide) kont) ?_
    show own_Ends _ _ _ _ (T1.setTop (mkF m 69 #[.val (.ref a), .val (.int z2), .unset] [(.int 0)]))
    refine own_to (fun _ kont => XS.istoreN X1.here hx rfl (hb hby d1_69) rfl (l' := #[.val (.ref a), .val (.int z2), .val (.int (0 : Int32))]) rfl kont) ?_
    show own_Ends _ _ _ _ (T1.setTop (mkF m 70 #[.val (.ref a), .val (.int z2), .val (.int 0)] []))
    refine own_to (fun _ kont => XS.iloadN X1.here hx rfl (hb hby d1_70) rfl kont) ?_
    show own_Ends _ _ _ _ (T1.setTop (mkF m 71 #[.val (.ref a), .val (.int z2), .val (.int 0)] [(.int 0)]))
    refine own_leave X1 (v := some (.int (0 : Int32))) (fun h => by rw [Bd.returns] at h; cases h) ?_ (by decide) (by decide) (fun fs hr => retN X1 hx (t := .boolean) Bd.returns (by simp) (hb hby d1_71) hr)
    show Q_rmW1 Z a z2 h0 n0 _ T1.heap _
    rw [E1]
    exact ⟨by simp [own_w, *], N1, rfl⟩
theorem d1_68 : decode prog_9_method_4_code 68 = .ok (.iconst 1, 1) := by decide +kernel
theorem ef_rmW2 (m : MethodId) (a : Addr) (z2 : Int32) : entryFrame m #[(.ref a), (.int z2)] 3 = mkF m 0 #[.val (.ref a), .val (.int z2), .unset] [] := by first | (simp [entryFrame, mkF, argsToLocals, Value.category]; done) | rfl | (rcases ref_cases hrf with rfl | ⟨q, rfl⟩ <;> rfl)
def Q_rmW2 (Z : State) (a : Addr) (z2 : Int32)  (h0 : Heap) (n0 : Nat) (v : Option Value) (h : Heap) (L : List Loc) : Prop := v = some (.int (1)) ∧ Fr n0 L ∧ h = h0
set_option maxRecDepth 65536 in
set_option maxHeartbeats 40000000 in
theorem rmW2 (l : Launch) (Z : State) (a0 : Array Value) (hw : ∀ d ∈ tables_1, d.before a0 Z = true) (ws : List Jvm.Cond) (a : Addr) (z2 : Int32)  (h0 : Heap) (n0 : Nat) (O0 : Old Z n0 h0) (E_a : Exa Z Z.heap a "com/example/ship_shore_exchange/shipshoreexchange/model/Repetition$NumRepetitions") (F_a : Fld Z Z.heap a "java/lang/Enum" "ordinal" "I" (.int (2 : Int32))) :
    MetFree l oM1 (head1 (Jvm.Cond.code oM1 prog_9_method_4_code 3 (some .boolean) :: ws) ({ frames := 1, cells := 0, slots := 0, locals := 12 } : Room)) (fun aq_ U => aq_ = #[(.ref a), (.int z2)] ∧ Z.Warmed39 U.vm ∧ U.heap = h0) (fun _ _ _ _ _ => True) (fun _ U o U' => ∃ v L, o = .returned v ∧ Q_rmW2 Z a z2 h0 n0 v U'.heap L ∧ FrameEnd U o U' L ({ frames := 1, cells := 0, slots := 0, locals := 12 } : Room).cells ({ frames := 1, cells := 0, slots := 0, locals := 12 } : Room).slots) := by
  refine MetFree.of_bodySF (plainFor_of_name pn_1) hisR ?_
  intro p e s m args below meth c s₁ Bd hml0 hP hK
  obtain ⟨rfl, hZ, hh⟩ := hP
  have hx := Bd.exec
  have hby := Bd.bytes
  have hml : c.maxLocals = 3 := hml0
  have hown : s.vm.findClass "com/example/ship_shore_exchange/shipshoreexchange/model/Repetition$NumRepetitions" = some m.cls := findClass_of_methodNamed Bd.named
  have hnm := (name_of_methodNamed Bd.named Bd.method).1
  have X0 : Stand p l e ({ frames := 1, cells := 0, slots := 0, locals := 12 } : Room) s m #[(.ref a), (.int z2)] below meth c s₁ [] 0 0 := Stand.of_body Bd
  have e0 : s₁.heap = h0 := by rw [← hh, Bd.state]; rfl
  have N0 := Fr.nil n0
  show own_Ends p.tables e below (own_P s (Q_rmW2 Z a z2 h0 n0) ({ frames := 1, cells := 0, slots := 0, locals := 12 } : Room).cells ({ frames := 1, cells := 0, slots := 0, locals := 12 } : Room).slots) _
  refine own_cast (ef_rmW2 m a z2) ?_
  show own_Ends _ _ _ _ (s₁.setTop (mkF m 0 #[.val (.ref a), .val (.int z2), .unset] []))
  refine own_to (fun _ kont => XS.aloadN X0.here hx rfl (hb hby d1_0) rfl rfl kont) ?_
  show own_Ends _ _ _ _ (s₁.setTop (mkF m 1 #[.val (.ref a), .val (.int z2), .unset] [(.ref a)]))
  obtain ⟨cq1, kq1, q1a, q1b, q1c⟩ := isOf hZ e0 (E_a.ext O0.2)
  obtain ⟨_, _, ⟨T1, L1, k1, n1⟩, -, X1, ⟨Lc1, hQ1, l1, y1, z1⟩, st1⟩ := X0.virtualBackUp hx (owner := "java/lang/Enum") (x := oM2) (y := oM0) hown (mvT hZ (ow9 hw)) (mvT hZ (ow10 hw)) (mvT hZ (ow11 hw)) (by decide) (mvT hZ (ow13 hw)) (mvT hZ (ow12 hw)) (backOf (W := 0) (rmO l Z a0 hw [] a (2 : Int32) h0 n0 O0 F_a) hZ (ow15 hw) (ow14 hw) (by decide) (by decide)) q1a q1c (g := (mkF m 1 #[.val (.ref a), .val (.int z2), .unset] [(.ref a)])) rfl (by rw [hml]; rfl) (Steps.refl _) (argsL := []) (rest := []) (lenOf pd_0 rfl) rfl (by show 2 * 0 + _ ≤ _; exact Nat.le_of_eq rfl) (hb hby d1_1) (fun _ _ => ⟨rfl, e0, (own_le rfl), (own_le rfl)⟩)
  dsimp only [Pt.U, Pt.locs, Pt.cells, Pt.slots] at X1 l1 y1 z1 st1 hQ1
  subst l1 y1 z1
  obtain ⟨rfl, N1q, E1⟩ := hQ1
  have N1 := Fr.app N0 N1q
  refine own_tr st1 ?_
  show own_Ends _ _ _ _ (T1.setTop (mkF m 4 #[.val (.ref a), .val (.int z2), .unset] [(.int 2)]))
  refine own_to (fun _ kont => XS.tswIn X1.here hx rfl (pc0 := 4) (pc' := 68) (o := 64) rfl (hb hby d1_4) rfl (by decide) (by decide) (by decide) (by decide) kont) ?_
  show own_Ends _ _ _ _ (T1.setTop (mkF m 68 #[.val (.ref a), .val (.int z2), .unset] []))
  refine own_to (fun _ kont => XS.iconst X1.here hx rfl (hb hby d1_68) kont) ?_
  show own_Ends _ _ _ _ (T1.setTop (mkF m 69 #[.val (.ref a), .val (.int z2), .unset] [(.int 1)]))
  refine own_to (fun _ kont => XS.istoreN X1.here hx rfl (hb hby d1_69) rfl (l' := #[.val (.ref a), .val (.int z2), .val (.int (1 : Int32))]) rfl kont) ?_
  show own_Ends _ _ _ _ (T1.setTop (mkF m 70 #[.val (.ref a), .val (.int z2), .val (.int 1)] []))
  refine own_to (fun _ kont => XS.iloadN X1.here hx rfl (hb hby d1_70) rfl kont) ?_
  show own_Ends _ _ _ _ (T1.setTop (mkF m 71 #[.val (.ref a), .val (.int z2), .val (.int 1)] [(.int 1)]))
  refine own_leave X1 (v := some (.int (1 : Int32))) (fun h => by rw [Bd.returns] at h; cases h) ?_ (by decide) (by decide) (fun fs hr => retN X1 hx (t := .boolean) Bd.returns (by simp) (hb hby d1_71) hr)
  show Q_rmW2 Z a z2 h0 n0 _ T1.heap _
  rw [E1]
  exact ⟨by simp [own_w, *], N1, rfl⟩
theorem pn_0 : plainName "com/example/ship_shore_exchange/shipshoreexchange/model/NumRepetitionsWantsRepeatAfterPinLaw" = true := by first | (simp [plainName, overriddenIn]; done) | decide +kernel
theorem pd_1 : parseMethodDescriptor "(I)Z" = some ⟨[.int], some .boolean⟩ := by decide +kernel
theorem ef_rm0 (m : MethodId) (z1 : Int32) (z2 : Int32) : entryFrame m #[(.int z1), (.int z2)] maxLocals = mkF m 0 #[.val (.int z1), .val (.int z2), .unset, .unset, .unset] [] := by first | (simp [entryFrame, mkF, argsToLocals, Value.category, maxLocals]; done) | rfl | (rcases ref_cases hrf with rfl | ⟨q, rfl⟩ <;> rfl)
def Q_rm0 (Z : State) (z1 : Int32) (z2 : Int32) (c0 : Addr) (c1 : Addr) (c2 : Addr) (h0 : Heap) (n0 : Nat) (v : Option Value) (h : Heap) (L : List Loc) : Prop := v = some (.int 1) ∧ Fr n0 L
set_option maxRecDepth 65536 in
set_option maxHeartbeats 40000000 in
theorem rm0 (l : Launch) (Z : State) (a0 : Array Value) (hw : ∀ d ∈ tables_1, d.before a0 Z = true) (ws : List Jvm.Cond) (z1 : Int32) (z2 : Int32) (c0 : Addr) (c1 : Addr) (c2 : Addr) (h0 : Heap) (n0 : Nat) (O0 : Old Z n0 h0) (S_c0 : Sta Z Z.heap "com/example/ship_shore_exchange/shipshoreexchange/model/Repetition$NumRepetitions" "ONCE" "Lcom/example/ship_shore_exchange/shipshoreexchange/model/Repetition$NumRepetitions;" (.ref c0)) (S_c1 : Sta Z Z.heap "com/example/ship_shore_exchange/shipshoreexchange/model/Repetition$NumRepetitions" "TWICE" "Lcom/example/ship_shore_exchange/shipshoreexchange/model/Repetition$NumRepetitions;" (.ref c1)) (S_c2 : Sta Z Z.heap "com/example/ship_shore_exchange/shipshoreexchange/model/Repetition$NumRepetitions" "TILL_CANCELLED" "Lcom/example/ship_shore_exchange/shipshoreexchange/model/Repetition$NumRepetitions;" (.ref c2)) (E_c0 : Exa Z Z.heap c0 "com/example/ship_shore_exchange/shipshoreexchange/model/Repetition$NumRepetitions") (E_c1 : Exa Z Z.heap c1 "com/example/ship_shore_exchange/shipshoreexchange/model/Repetition$NumRepetitions") (E_c2 : Exa Z Z.heap c2 "com/example/ship_shore_exchange/shipshoreexchange/model/Repetition$NumRepetitions") (F_c0 : Fld Z Z.heap c0 "java/lang/Enum" "ordinal" "I" (.int (0 : Int32))) (F_c1 : Fld Z Z.heap c1 "java/lang/Enum" "ordinal" "I" (.int (1 : Int32))) (F_c2 : Fld Z Z.heap c2 "java/lang/Enum" "ordinal" "I" (.int (2 : Int32))) :
    MetFree l x (head1 (Jvm.Cond.code x code maxLocals ret :: ws) room_1) (fun aq_ U => aq_ = #[(.int z1), (.int z2)] ∧ Z.Warmed39 U.vm ∧ U.heap = h0) (fun _ _ _ _ _ => True) (fun _ U o U' => ∃ v L, o = .returned v ∧ Q_rm0 Z z1 z2 c0 c1 c2 h0 n0 v U'.heap L ∧ FrameEnd U o U' L 0 0) := by
  refine MetFree.of_bodySF (plainFor_of_name pn_0) hisR ?_
  intro p e s m args below meth c s₁ Bd hml0 hP hK
  obtain ⟨rfl, hZ, hh⟩ := hP
  have hx := Bd.exec
  have hby := Bd.bytes
  have hml : c.maxLocals = 5 := hml0
  have hown : s.vm.findClass "com/example/ship_shore_exchange/shipshoreexchange/model/NumRepetitionsWantsRepeatAfterPinLaw" = some m.cls := findClass_of_methodNamed Bd.named
  have hnm := (name_of_methodNamed Bd.named Bd.method).1
  have X0 : Stand p l e room_1 s m #[(.int z1), (.int z2)] below meth c s₁ [] 0 0 := Stand.of_body Bd
  have e0 : s₁.heap = h0 := by rw [← hh, Bd.state]; rfl
  have N0 := Fr.nil n0
  show own_Ends p.tables e below (own_P s (Q_rm0 Z z1 z2 c0 c1 c2 h0 n0) 0 0) _
  refine own_cast (ef_rm0 m z1 z2) ?_
  show own_Ends _ _ _ _ (s₁.setTop (mkF m 0 #[.val (.int z1), .val (.int z2), .unset, .unset, .unset] []))
  refine own_to (fun _ kont => XS.iloadN X0.here hx rfl (hb hby at_0) rfl kont) ?_
  show own_Ends _ _ _ _ (s₁.setTop (mkF m 1 #[.val (.int z1), .val (.int z2), .unset, .unset, .unset] [(.int z1)]))
  refine own_to (X0.ldcInt hx hown (mvT hZ (ow0 hw)) (g := (mkF m 1 #[.val (.int z1), .val (.int z2), .unset, .unset, .unset] [(.int z1)])) rfl (hb hby at_1)) ?_
  show own_Ends _ _ _ _ (s₁.setTop (mkF m 3 #[.val (.int z1), .val (.int z2), .unset, .unset, .unset] [(.int 2147483647), (.int z1)]))
  refine own_to (fun _ kont => XS.iand X0.here hx rfl (hb hby at_3) rfl kont) ?_
  show own_Ends _ _ _ _ (s₁.setTop (mkF m 4 #[.val (.int z1), .val (.int z2), .unset, .unset, .unset] [(.int (z1 &&& 2147483647))]))
  refine own_to (fun _ kont => XS.iconst X0.here hx rfl (hb hby at_4) kont) ?_
  show own_Ends _ _ _ _ (s₁.setTop (mkF m 5 #[.val (.int z1), .val (.int z2), .unset, .unset, .unset] [(.int 3), (.int (z1 &&& 2147483647))]))
  refine own_to (fun _ kont => iremM X0 hx rfl (hb hby at_5) rfl (by decide) kont) ?_
  show own_Ends _ _ _ _ (s₁.setTop (mkF m 6 #[.val (.int z1), .val (.int z2), .unset, .unset, .unset] [(.int ((z1 &&& 2147483647) % 3))]))
  refine own_to (fun _ kont => XS.istoreN X0.here hx rfl (hb hby at_6) rfl (l' := #[.val (.int z1), .val (.int z2), .val (.int ((z1 &&& (2147483647 : Int32)) % (3 : Int32))), .unset, .unset]) rfl kont) ?_
  show own_Ends _ _ _ _ (s₁.setTop (mkF m 7 #[.val (.int z1), .val (.int z2), .val (.int ((z1 &&& 2147483647) % 3)), .unset, .unset] []))
  generalize hi : ((z1 &&& (2147483647 : Int32)) % (3 : Int32)) = i
  rcases (hi ▸ own_mod3 z1 : i = 0 ∨ i = 1 ∨ i = 2) with rfl | rfl | rfl
  · skip
    show own_Ends _ _ _ _ (s₁.setTop (mkF m 7 #[.val (.int z1), .val (.int z2), .val (.int 0), .unset, .unset] []))
    refine own_to (fun _ kont => XS.iloadN X0.here hx rfl (hb hby at_7) rfl kont) ?_
    show own_Ends _ _ _ _ (s₁.setTop (mkF m 8 #[.val (.int z1), .val (.int z2), .val (.int 0), .unset, .unset] [(.int 0)]))
    refine own_to (fun _ kont => XS.ifNo X0.here hx rfl (hb hby at_8) rfl ((if0 _ _).trans (teq (by decide)).2) kont) ?_
    show own_Ends _ _ _ _ (s₁.setTop (mkF m 11 #[.val (.int z1), .val (.int z2), .val (.int 0), .unset, .unset] []))
    obtain ⟨T1, X1, e1, st1⟩ := getS2 X0 hx hZ hown (host := "") (Or.inl (ow1 hw)) Via.refl e0 (S_c0.ext O0.2) (g := (mkF m 11 #[.val (.int z1), .val (.int z2), .val (.int (0 : Int32)), .unset, .unset] [])) rfl (hb hby at_11)
    refine own_to st1 ?_
    show own_Ends _ _ _ _ (T1.setTop (mkF m 14 #[.val (.int z1), .val (.int z2), .val (.int 0), .unset, .unset] [(.ref c0)]))
    refine own_to (fun _ kont => XS.astoreN X1.here hx rfl (hb hby at_14) rfl rfl (l' := #[.val (.int z1), .val (.int z2), .val (.int (0 : Int32)), .val (.ref c0), .unset]) rfl kont) ?_
    show own_Ends _ _ _ _ (T1.setTop (mkF m 15 #[.val (.int z1), .val (.int z2), .val (.int 0), .val (.ref c0), .unset] []))
    refine own_to (fun _ kont => XS.iloadN X1.here hx rfl (hb hby at_15) rfl kont) ?_
    show own_Ends _ _ _ _ (T1.setTop (mkF m 16 #[.val (.int z1), .val (.int z2), .val (.int 0), .val (.ref c0), .unset] [(.int z2)]))
    by_cases hc16_2 : (0 : Int32) < z2
    · -- pc 16: (0 : Int32) < z2
      refine own_to (fun _ kont => XS.ifYes X1.here hx rfl (pc0 := 16) (pc' := 23) rfl (hb hby at_16) rfl ((if0 _ _).trans (tlt hc16_2).2.2.1) (by decide) (by decide) kont) ?_
      show own_Ends _ _ _ _ (T1.setTop (mkF m 23 #[.val (.int z1), .val (.int z2), .val (.int 0), .val (.ref c0), .unset] []))
      refine own_to (fun _ kont => XS.iconst X1.here hx rfl (hb hby at_23) kont) ?_
      show own_Ends _ _ _ _ (T1.setTop (mkF m 24 #[.val (.int z1), .val (.int z2), .val (.int 0), .val (.ref c0), .unset] [(.int 0)]))
      refine own_to (fun _ kont => XS.istore X1.here hx rfl (hb hby at_24) rfl (l' := #[.val (.int z1), .val (.int z2), .val (.int (0 : Int32)), .val (.ref c0), .val (.int (0 : Int32))]) rfl kont) ?_
      show own_Ends _ _ _ _ (T1.setTop (mkF m 26 #[.val (.int z1), .val (.int z2), .val (.int 0), .val (.ref c0), .val (.int 0)] []))
      refine own_to (fun _ kont => XS.goto X1.here hx rfl (pc0 := 26) (pc' := 60) rfl (hb hby at_26) (by decide) (by decide) kont) ?_
      show own_Ends _ _ _ _ (T1.setTop (mkF m 60 #[.val (.int z1), .val (.int z2), .val (.int 0), .val (.ref c0), .val (.int 0)] []))
      refine own_to (fun _ kont => XS.aloadN X1.here hx rfl (hb hby at_60) rfl rfl kont) ?_
      show own_Ends _ _ _ _ (T1.setTop (mkF m 61 #[.val (.int z1), .val (.int z2), .val (.int 0), .val (.ref c0), .val (.int 0)] [(.ref c0)]))
      refine own_to (fun _ kont => XS.iloadN X1.here hx rfl (hb hby at_61) rfl kont) ?_
      show own_Ends _ _ _ _ (T1.setTop (mkF m 62 #[.val (.int z1), .val (.int z2), .val (.int 0), .val (.ref c0), .val (.int 0)] [(.int z2), (.ref c0)]))
      obtain ⟨cq3, kq3, q3a, q3b, q3c⟩ := isOf hZ e1 (E_c0.ext O0.2)
      obtain ⟨_, _, ⟨T3, L3, k3, n3⟩, -, X3, ⟨Lc3, hQ3, l3, y3, z3⟩, st3⟩ := X1.virtualBack hx (y := oM1) (z := oM1) hown (mvT hZ (ow4 hw)) (mvT hZ (ow5 hw)) (notFace_of_selects (args := #[]) (mvT hZ (ow7 hw))) (mvT hZ (ow7 hw)) (mvT hZ (ow6 hw)) (by decide) (backOf (W := 0) (rmW0 l Z a0 hw [] c0 z2  h0 n0 O0 E_c0 F_c0) hZ (ow8 hw) (ow2 hw) (by decide) (by decide)) q3a q3c (g := (mkF m 62 #[.val (.int z1), .val (.int z2), .val (.int (0 : Int32)), .val (.ref c0), .val (.int (0 : Int32))] [(.int z2), (.ref c0)])) rfl (by rw [hml]; rfl) (Steps.refl _) (argsL := [(.int z2)]) (rest := []) (lenOf pd_1 rfl) rfl (by show 2 * 0 + _ ≤ _; exact Nat.le_of_eq rfl) (hb hby at_62) (fun _ _ => ⟨rfl, e1, (own_le rfl), (own_le rfl)⟩)
      dsimp only [Pt.U, Pt.locs, Pt.cells, Pt.slots] at X3 l3 y3 z3 st3 hQ3
      subst l3 y3 z3
      obtain ⟨hv3, N3q, E3⟩ := hQ3
      rw [own_w_n (own_gt0 hc16_2)] at hv3
      subst hv3
      have N3 := Fr.app N0 N3q
      refine own_tr st3 ?_
      show own_Ends _ _ _ _ (T3.setTop (mkF m 65 #[.val (.int z1), .val (.int z2), .val (.int 0), .val (.ref c0), .val (.int 0)] [(.int 0)]))
      refine own_to (fun _ kont => XS.iload X3.here hx rfl (hb hby at_65) rfl kont) ?_
      show own_Ends _ _ _ _ (T3.setTop (mkF m 67 #[.val (.int z1), .val (.int z2), .val (.int 0), .val (.ref c0), .val (.int 0)] [(.int 0), (.int 0)]))
      refine own_to (fun _ kont => XS.icmpNo X3.here hx rfl (hb hby at_67) rfl (teq (by decide)).2 kont) ?_
      show own_Ends _ _ _ _ (T3.setTop (mkF m 70 #[.val (.int z1), .val (.int z2), .val (.int 0), .val (.ref c0), .val (.int 0)] []))
      refine own_to (fun _ kont => XS.iconst X3.here hx rfl (hb hby at_70) kont) ?_
      show own_Ends _ _ _ _ (T3.setTop (mkF m 71 #[.val (.int z1), .val (.int z2), .val (.int 0), .val (.ref c0), .val (.int 0)] [(.int 1)]))
      refine own_to (fun _ kont => XS.goto X3.here hx rfl (pc0 := 71) (pc' := 75) rfl (hb hby at_71) (by decide) (by decide) kont) ?_
      show own_Ends _ _ _ _ (T3.setTop (mkF m 75 #[.val (.int z1), .val (.int z2), .val (.int 0), .val (.ref c0), .val (.int 0)] [(.int 1)]))
      refine own_leave X3 (v := some (.int (1 : Int32))) (fun h => by rw [Bd.returns] at h; cases h) ?_ (by decide) (by decide) (fun fs hr => retN X3 hx (t := .boolean) Bd.returns (by simp) (hb hby at_75) hr)
      show Q_rm0 Z z1 z2 c0 c1 c2 h0 n0 _ T3.heap _
      rw [E3]
      exact ⟨rfl, N3⟩
    · -- pc 16: not (0 : Int32) < z2
      refine own_to (fun _ kont => XS.ifNo X1.here hx rfl (hb hby at_16) rfl ((if0 _ _).trans (flt hc16_2).2.2.1) kont) ?_
      show own_Ends _ _ _ _ (T1.setTop (mkF m 19 #[.val (.int z1), .val (.int z2), .val (.int 0), .val (.ref c0), .unset] []))
      refine own_to (fun _ kont => XS.iconst X1.here hx rfl (hb hby at_19) kont) ?_
      show own_Ends _ _ _ _ (T1.setTop (mkF m 20 #[.val (.int z1), .val (.int z2), .val (.int 0), .val (.ref c0), .unset] [(.int 1)]))
      refine own_to (fun _ kont => XS.goto X1.here hx rfl (pc0 := 20) (pc' := 24) rfl (hb hby at_20) (by decide) (by decide) kont) ?_
      show own_Ends _ _ _ _ (T1.setTop (mkF m 24 #[.val (.int z1), .val (.int z2), .val (.int 0), .val (.ref c0), .unset] [(.int 1)]))
      refine own_to (fun _ kont => XS.istore X1.here hx rfl (hb hby at_24) rfl (l' := #[.val (.int z1), .val (.int z2), .val (.int (0 : Int32)), .val (.ref c0), .val (.int (1 : Int32))]) rfl kont) ?_
      show own_Ends _ _ _ _ (T1.setTop (mkF m 26 #[.val (.int z1), .val (.int z2), .val (.int 0), .val (.ref c0), .val (.int 1)] []))
      refine own_to (fun _ kont => XS.goto X1.here hx rfl (pc0 := 26) (pc' := 60) rfl (hb hby at_26) (by decide) (by decide) kont) ?_
      show own_Ends _ _ _ _ (T1.setTop (mkF m 60 #[.val (.int z1), .val (.int z2), .val (.int 0), .val (.ref c0), .val (.int 1)] []))
      refine own_to (fun _ kont => XS.aloadN X1.here hx rfl (hb hby at_60) rfl rfl kont) ?_
      show own_Ends _ _ _ _ (T1.setTop (mkF m 61 #[.val (.int z1), .val (.int z2), .val (.int 0), .val (.ref c0), .val (.int 1)] [(.ref c0)]))
      refine own_to (fun _ kont => XS.iloadN X1.here hx rfl (hb hby at_61) rfl kont) ?_
      show own_Ends _ _ _ _ (T1.setTop (mkF m 62 #[.val (.int z1), .val (.int z2), .val (.int 0), .val (.ref c0), .val (.int 1)] [(.int z2), (.ref c0)]))
      obtain ⟨cq4, kq4, q4a, q4b, q4c⟩ := isOf hZ e1 (E_c0.ext O0.2)
      obtain ⟨_, _, ⟨T4, L4, k4, n4⟩, -, X4, ⟨Lc4, hQ4, l4, y4, z4⟩, st4⟩ := X1.virtualBack hx (y := oM1) (z := oM1) hown (mvT hZ (ow4 hw)) (mvT hZ (ow5 hw)) (notFace_of_selects (args := #[]) (mvT hZ (ow7 hw))) (mvT hZ (ow7 hw)) (mvT hZ (ow6 hw)) (by decide) (backOf (W := 0) (rmW0 l Z a0 hw [] c0 z2  h0 n0 O0 E_c0 F_c0) hZ (ow8 hw) (ow2 hw) (by decide) (by decide)) q4a q4c (g := (mkF m 62 #[.val (.int z1), .val (.int z2), .val (.int (0 : Int32)), .val (.ref c0), .val (.int (1 : Int32))] [(.int z2), (.ref c0)])) rfl (by rw [hml]; rfl) (Steps.refl _) (argsL := [(.int z2)]) (rest := []) (lenOf pd_1 rfl) rfl (by show 2 * 0 + _ ≤ _; exact Nat.le_of_eq rfl) (hb hby at_62) (fun _ _ => ⟨rfl, e1, (own_le rfl), (own_le rfl)⟩)
      dsimp only [Pt.U, Pt.locs, Pt.cells, Pt.slots] at X4 l4 y4 z4 st4 hQ4
      subst l4 y4 z4
      obtain ⟨hv4, N4q, E4⟩ := hQ4
      rw [own_w_y (own_le0 hc16_2)] at hv4
      subst hv4
      have N4 := Fr.app N0 N4q
      refine own_tr st4 ?_
      show own_Ends _ _ _ _ (T4.setTop (mkF m 65 #[.val (.int z1), .val (.int z2), .val (.int 0), .val (.ref c0), .val (.int 1)] [(.int 1)]))
      refine own_to (fun _ kont => XS.iload X4.here hx rfl (hb hby at_65) rfl kont) ?_
      show own_Ends _ _ _ _ (T4.setTop (mkF m 67 #[.val (.int z1), .val (.int z2), .val (.int 0), .val (.ref c0), .val (.int 1)] [(.int 1), (.int 1)]))
      refine own_to (fun _ kont => XS.icmpNo X4.here hx rfl (hb hby at_67) rfl (teq (by decide)).2 kont) ?_
      show own_Ends _ _ _ _ (T4.setTop (mkF m 70 #[.val (.int z1), .val (.int z2), .val (.int 0), .val (.ref c0), .val (.int 1)] []))
      refine own_to (fun _ kont => XS.iconst X4.here hx rfl (hb hby at_70) kont) ?_
      show own_Ends _ _ _ _ (T4.setTop (mkF m 71 #[.val (.int z1), .val (.int z2), .val (.int 0), .val (.ref c0), .val (.int 1)] [(.int 1)]))
      refine own_to (fun _ kont => XS.goto X4.here hx rfl (pc0 := 71) (pc' := 75) rfl (hb hby at_71) (by decide) (by decide) kont) ?_
      show own_Ends _ _ _ _ (T4.setTop (mkF m 75 #[.val (.int z1), .val (.int z2), .val (.int 0), .val (.ref c0), .val (.int 1)] [(.int 1)]))
      refine own_leave X4 (v := some (.int (1 : Int32))) (fun h => by rw [Bd.returns] at h; cases h) ?_ (by decide) (by decide) (fun fs hr => retN X4 hx (t := .boolean) Bd.returns (by simp) (hb hby at_75) hr)
      show Q_rm0 Z z1 z2 c0 c1 c2 h0 n0 _ T4.heap _
      rw [E4]
      exact ⟨rfl, N4⟩
  · skip
    show own_Ends _ _ _ _ (s₁.setTop (mkF m 7 #[.val (.int z1), .val (.int z2), .val (.int 1), .unset, .unset] []))
    refine own_to (fun _ kont => XS.iloadN X0.here hx rfl (hb hby at_7) rfl kont) ?_
    show own_Ends _ _ _ _ (s₁.setTop (mkF m 8 #[.val (.int z1), .val (.int z2), .val (.int 1), .unset, .unset] [(.int 1)]))
    refine own_to (fun _ kont => XS.ifYes X0.here hx rfl (pc0 := 8) (pc' := 29) rfl (hb hby at_8) rfl ((if0 _ _).trans (feq (by decide)).2) (by decide) (by decide) kont) ?_
    show own_Ends _ _ _ _ (s₁.setTop (mkF m 29 #[.val (.int z1), .val (.int z2), .val (.int 1), .unset, .unset] []))
    refine own_to (fun _ kont => XS.iloadN X0.here hx rfl (hb hby at_29) rfl kont) ?_
    show own_Ends _ _ _ _ (s₁.setTop (mkF m 30 #[.val (.int z1), .val (.int z2), .val (.int 1), .unset, .unset] [(.int 1)]))
    refine own_to (fun _ kont => XS.iconst X0.here hx rfl (hb hby at_30) kont) ?_
    show own_Ends _ _ _ _ (s₁.setTop (mkF m 31 #[.val (.int z1), .val (.int z2), .val (.int 1), .unset, .unset] [(.int 1), (.int 1)]))
    refine own_to (fun _ kont => XS.icmpNo X0.here hx rfl (hb hby at_31) rfl (teq (by decide)).2 kont) ?_
    show own_Ends _ _ _ _ (s₁.setTop (mkF m 34 #[.val (.int z1), .val (.int z2), .val (.int 1), .unset, .unset] []))
    obtain ⟨T5, X5, e5, st5⟩ := getS2 X0 hx hZ hown (host := "") (Or.inl (ow20 hw)) Via.refl e0 (S_c1.ext O0.2) (g := (mkF m 34 #[.val (.int z1), .val (.int z2), .val (.int (1 : Int32)), .unset, .unset] [])) rfl (hb hby at_34)
    refine own_to st5 ?_
    show own_Ends _ _ _ _ (T5.setTop (mkF m 37 #[.val (.int z1), .val (.int z2), .val (.int 1), .unset, .unset] [(.ref c1)]))
    refine own_to (fun _ kont => XS.astoreN X5.here hx rfl (hb hby at_37) rfl rfl (l' := #[.val (.int z1), .val (.int z2), .val (.int (1 : Int32)), .val (.ref c1), .unset]) rfl kont) ?_
    show own_Ends _ _ _ _ (T5.setTop (mkF m 38 #[.val (.int z1), .val (.int z2), .val (.int 1), .val (.ref c1), .unset] []))
    refine own_to (fun _ kont => XS.iloadN X5.here hx rfl (hb hby at_38) rfl kont) ?_
    show own_Ends _ _ _ _ (T5.setTop (mkF m 39 #[.val (.int z1), .val (.int z2), .val (.int 1), .val (.ref c1), .unset] [(.int z2)]))
    refine own_to (fun _ kont => XS.iconst X5.here hx rfl (hb hby at_39) kont) ?_
    show own_Ends _ _ _ _ (T5.setTop (mkF m 40 #[.val (.int z1), .val (.int z2), .val (.int 1), .val (.ref c1), .unset] [(.int 1), (.int z2)]))
    by_cases hc40_6 : (1 : Int32) < z2
    · -- pc 40: (1 : Int32) < z2
      refine own_to (fun _ kont => XS.icmpYes X5.here hx rfl (pc0 := 40) (pc' := 47) rfl (hb hby at_40) rfl (tlt hc40_6).2.2.1 (by decide) (by decide) kont) ?_
      show own_Ends _ _ _ _ (T5.setTop (mkF m 47 #[.val (.int z1), .val (.int z2), .val (.int 1), .val (.ref c1), .unset] []))
      refine own_to (fun _ kont => XS.iconst X5.here hx rfl (hb hby at_47) kont) ?_
      show own_Ends _ _ _ _ (T5.setTop (mkF m 48 #[.val (.int z1), .val (.int z2), .val (.int 1), .val (.ref c1), .unset] [(.int 0)]))
      refine own_to (fun _ kont => XS.istore X5.here hx rfl (hb hby at_48) rfl (l' := #[.val (.int z1), .val (.int z2), .val (.int (1 : Int32)), .val (.ref c1), .val (.int (0 : Int32))]) rfl kont) ?_
      show own_Ends _ _ _ _ (T5.setTop (mkF m 50 #[.val (.int z1), .val (.int z2), .val (.int 1), .val (.ref c1), .val (.int 0)] []))
      refine own_to (fun _ kont => XS.goto X5.here hx rfl (pc0 := 50) (pc' := 60) rfl (hb hby at_50) (by decide) (by decide) kont) ?_
      show own_Ends _ _ _ _ (T5.setTop (mkF m 60 #[.val (.int z1), .val (.int z2), .val (.int 1), .val (.ref c1), .val (.int 0)] []))
      refine own_to (fun _ kont => XS.aloadN X5.here hx rfl (hb hby at_60) rfl rfl kont) ?_
      show own_Ends _ _ _ _ (T5.setTop (mkF m 61 #[.val (.int z1), .val (.int z2), .val (.int 1), .val (.ref c1), .val (.int 0)] [(.ref c1)]))
      refine own_to (fun _ kont => XS.iloadN X5.here hx rfl (hb hby at_61) rfl kont) ?_
      show own_Ends _ _ _ _ (T5.setTop (mkF m 62 #[.val (.int z1), .val (.int z2), .val (.int 1), .val (.ref c1), .val (.int 0)] [(.int z2), (.ref c1)]))
      obtain ⟨cq7, kq7, q7a, q7b, q7c⟩ := isOf hZ e5 (E_c1.ext O0.2)
      obtain ⟨_, _, ⟨T7, L7, k7, n7⟩, -, X7, ⟨Lc7, hQ7, l7, y7, z7⟩, st7⟩ := X5.virtualBack hx (y := oM1) (z := oM1) hown (mvT hZ (ow4 hw)) (mvT hZ (ow5 hw)) (notFace_of_selects (args := #[]) (mvT hZ (ow7 hw))) (mvT hZ (ow7 hw)) (mvT hZ (ow6 hw)) (by decide) (backOf (W := 0) (rmW1 l Z a0 hw [] c1 z2  h0 n0 O0 E_c1 F_c1) hZ (ow8 hw) (ow2 hw) (by decide) (by decide)) q7a q7c (g := (mkF m 62 #[.val (.int z1), .val (.int z2), .val (.int (1 : Int32)), .val (.ref c1), .val (.int (0 : Int32))] [(.int z2), (.ref c1)])) rfl (by rw [hml]; rfl) (Steps.refl _) (argsL := [(.int z2)]) (rest := []) (lenOf pd_1 rfl) rfl (by show 2 * 0 + _ ≤ _; exact Nat.le_of_eq rfl) (hb hby at_62) (fun _ _ => ⟨rfl, e5, (own_le rfl), (own_le rfl)⟩)
      dsimp only [Pt.U, Pt.locs, Pt.cells, Pt.slots] at X7 l7 y7 z7 st7 hQ7
      subst l7 y7 z7
      obtain ⟨hv7, N7q, E7⟩ := hQ7
      rw [own_w_n (own_gt1 hc40_6)] at hv7
      subst hv7
      have N7 := Fr.app N0 N7q
      refine own_tr st7 ?_
      show own_Ends _ _ _ _ (T7.setTop (mkF m 65 #[.val (.int z1), .val (.int z2), .val (.int 1), .val (.ref c1), .val (.int 0)] [(.int 0)]))
      refine own_to (fun _ kont => XS.iload X7.here hx rfl (hb hby at_65) rfl kont) ?_
      show own_Ends _ _ _ _ (T7.setTop (mkF m 67 #[.val (.int z1), .val (.int z2), .val (.int 1), .val (.ref c1), .val (.int 0)] [(.int 0), (.int 0)]))
      refine own_to (fun _ kont => XS.icmpNo X7.here hx rfl (hb hby at_67) rfl (teq (by decide)).2 kont) ?_
      show own_Ends _ _ _ _ (T7.setTop (mkF m 70 #[.val (.int z1), .val (.int z2), .val (.int 1), .val (.ref c1), .val (.int 0)] []))
      refine own_to (fun _ kont => XS.iconst X7.here hx rfl (hb hby at_70) kont) ?_
      show own_Ends _ _ _ _ (T7.setTop (mkF m 71 #[.val (.int z1), .val (.int z2), .val (.int 1), .val (.ref c1), .val (.int 0)] [(.int 1)]))
      refine own_to (fun _ kont => XS.goto X7.here hx rfl (pc0 := 71) (pc' := 75) rfl (hb hby at_71) (by decide) (by decide) kont) ?_
      show own_Ends _ _ _ _ (T7.setTop (mkF m 75 #[.val (.int z1), .val (.int z2), .val (.int 1), .val (.ref c1), .val (.int 0)] [(.int 1)]))
      refine own_leave X7 (v := some (.int (1 : Int32))) (fun h => by rw [Bd.returns] at h; cases h) ?_ (by decide) (by decide) (fun fs hr => retN X7 hx (t := .boolean) Bd.returns (by simp) (hb hby at_75) hr)
      show Q_rm0 Z z1 z2 c0 c1 c2 h0 n0 _ T7.heap _
      rw [E7]
      exact ⟨rfl, N7⟩
    · -- pc 40: not (1 : Int32) < z2
      refine own_to (fun _ kont => XS.icmpNo X5.here hx rfl (hb hby at_40) rfl (flt hc40_6).2.2.1 kont) ?_
      show own_Ends _ _ _ _ (T5.setTop (mkF m 43 #[.val (.int z1), .val (.int z2), .val (.int 1), .val (.ref c1), .unset] []))
      refine own_to (fun _ kont => XS.iconst X5.here hx rfl (hb hby at_43) kont) ?_
      show own_Ends _ _ _ _ (T5.setTop (mkF m 44 #[.val (.int z1), .val (.int z2), .val (.int 1), .val (.ref c1), .unset] [(.int 1)]))
      refine own_to (fun _ kont => XS.goto X5.here hx rfl (pc0 := 44) (pc' := 48) rfl (hb hby at_44) (by decide) (by decide) kont) ?_
      show own_Ends _ _ _ _ (T5.setTop (mkF m 48 #[.val (.int z1), .val (.int z2), .val (.int 1), .val (.ref c1), .unset] [(.int 1)]))
      refine own_to (fun _ kont => XS.istore X5.here hx rfl (hb hby at_48) rfl (l' := #[.val (.int z1), .val (.int z2), .val (.int (1 : Int32)), .val (.ref c1), .val (.int (1 : Int32))]) rfl kont) ?_
      show own_Ends _ _ _ _ (T5.setTop (mkF m 50 #[.val (.int z1), .val (.int z2), .val (.int 1), .val (.ref c1), .val (.int 1)] []))
      refine own_to (fun _ kont => XS.goto X5.here hx rfl (pc0 := 50) (pc' := 60) rfl (hb hby at_50) (by decide) (by decide) kont) ?_
      show own_Ends _ _ _ _ (T5.setTop (mkF m 60 #[.val (.int z1), .val (.int z2), .val (.int 1), .val (.ref c1), .val (.int 1)] []))
      refine own_to (fun _ kont => XS.aloadN X5.here hx rfl (hb hby at_60) rfl rfl kont) ?_
      show own_Ends _ _ _ _ (T5.setTop (mkF m 61 #[.val (.int z1), .val (.int z2), .val (.int 1), .val (.ref c1), .val (.int 1)] [(.ref c1)]))
      refine own_to (fun _ kont => XS.iloadN X5.here hx rfl (hb hby at_61) rfl kont) ?_
      show own_Ends _ _ _ _ (T5.setTop (mkF m 62 #[.val (.int z1), .val (.int z2), .val (.int 1), .val (.ref c1), .val (.int 1)] [(.int z2), (.ref c1)]))
      obtain ⟨cq8, kq8, q8a, q8b, q8c⟩ := isOf hZ e5 (E_c1.ext O0.2)
      obtain ⟨_, _, ⟨T8, L8, k8, n8⟩, -, X8, ⟨Lc8, hQ8, l8, y8, z8⟩, st8⟩ := X5.virtualBack hx (y := oM1) (z := oM1) hown (mvT hZ (ow4 hw)) (mvT hZ (ow5 hw)) (notFace_of_selects (args := #[]) (mvT hZ (ow7 hw))) (mvT hZ (ow7 hw)) (mvT hZ (ow6 hw)) (by decide) (backOf (W := 0) (rmW1 l Z a0 hw [] c1 z2  h0 n0 O0 E_c1 F_c1) hZ (ow8 hw) (ow2 hw) (by decide) (by decide)) q8a q8c (g := (mkF m 62 #[.val (.int z1), .val (.int z2), .val (.int (1 : Int32)), .val (.ref c1), .val (.int (1 : Int32))] [(.int z2), (.ref c1)])) rfl (by rw [hml]; rfl) (Steps.refl _) (argsL := [(.int z2)]) (rest := []) (lenOf pd_1 rfl) rfl (by show 2 * 0 + _ ≤ _; exact Nat.le_of_eq rfl) (hb hby at_62) (fun _ _ => ⟨rfl, e5, (own_le rfl), (own_le rfl)⟩)
      dsimp only [Pt.U, Pt.locs, Pt.cells, Pt.slots] at X8 l8 y8 z8 st8 hQ8
      subst l8 y8 z8
      obtain ⟨hv8, N8q, E8⟩ := hQ8
      rw [own_w_y (own_le1 hc40_6)] at hv8
      subst hv8
      have N8 := Fr.app N0 N8q
      refine own_tr st8 ?_
      show own_Ends _ _ _ _ (T8.setTop (mkF m 65 #[.val (.int z1), .val (.int z2), .val (.int 1), .val (.ref c1), .val (.int 1)] [(.int 1)]))
      refine own_to (fun _ kont => XS.iload X8.here hx rfl (hb hby at_65) rfl kont) ?_
      show own_Ends _ _ _ _ (T8.setTop (mkF m 67 #[.val (.int z1), .val (.int z2), .val (.int 1), .val (.ref c1), .val (.int 1)] [(.int 1), (.int 1)]))
      refine own_to (fun _ kont => XS.icmpNo X8.here hx rfl (hb hby at_67) rfl (teq (by decide)).2 kont) ?_
      show own_Ends _ _ _ _ (T8.setTop (mkF m 70 #[.val (.int z1), .val (.int z2), .val (.int 1), .val (.ref c1), .val (.int 1)] []))
      refine own_to (fun _ kont => XS.iconst X8.here hx rfl (hb hby at_70) kont) ?_
      show own_Ends _ _ _ _ (T8.setTop (mkF m 71 #[.val (.int z1), .val (.int z2), .val (.int 1), .val (.ref c1), .val (.int 1)] [(.int 1)]))
      refine own_to (fun _ kont => XS.goto X8.here hx rfl (pc0 := 71) (pc' := 75) rfl (hb hby at_71) (by decide) (by decide) kont) ?_
      show own_Ends _ _ _ _ (T8.setTop (mkF m 75 #[.val (.int z1), .val (.int z2), .val (.int 1), .val (.ref c1), .val (.int 1)] [(.int 1)]))
      refine own_leave X8 (v := some (.int (1 : Int32))) (fun h => by rw [Bd.returns] at h; cases h) ?_ (by decide) (by decide) (fun fs hr => retN X8 hx (t := .boolean) Bd.returns (by simp) (hb hby at_75) hr)
      show Q_rm0 Z z1 z2 c0 c1 c2 h0 n0 _ T8.heap _
      rw [E8]
      exact ⟨rfl, N8⟩
  · skip
    show own_Ends _ _ _ _ (s₁.setTop (mkF m 7 #[.val (.int z1), .val (.int z2), .val (.int 2), .unset, .unset] []))
    refine own_to (fun _ kont => XS.iloadN X0.here hx rfl (hb hby at_7) rfl kont) ?_
    show own_Ends _ _ _ _ (s₁.setTop (mkF m 8 #[.val (.int z1), .val (.int z2), .val (.int 2), .unset, .unset] [(.int 2)]))
    refine own_to (fun _ kont => XS.ifYes X0.here hx rfl (pc0 := 8) (pc' := 29) rfl (hb hby at_8) rfl ((if0 _ _).trans (feq (by decide)).2) (by decide) (by decide) kont) ?_
    show own_Ends _ _ _ _ (s₁.setTop (mkF m 29 #[.val (.int z1), .val (.int z2), .val (.int 2), .unset, .unset] []))
    refine own_to (fun _ kont => XS.iloadN X0.here hx rfl (hb hby at_29) rfl kont) ?_
    show own_Ends _ _ _ _ (s₁.setTop (mkF m 30 #[.val (.int z1), .val (.int z2), .val (.int 2), .unset, .unset] [(.int 2)]))
    refine own_to (fun _ kont => XS.iconst X0.here hx rfl (hb hby at_30) kont) ?_
    show own_Ends _ _ _ _ (s₁.setTop (mkF m 31 #[.val (.int z1), .val (.int z2), .val (.int 2), .unset, .unset] [(.int 1), (.int 2)]))
    refine own_to (fun _ kont => XS.icmpYes X0.here hx rfl (pc0 := 31) (pc' := 53) rfl (hb hby at_31) rfl (feq (by decide)).2 (by decide) (by decide) kont) ?_
    show own_Ends _ _ _ _ (s₁.setTop (mkF m 53 #[.val (.int z1), .val (.int z2), .val (.int 2), .unset, .unset] []))
    obtain ⟨T9, X9, e9, st9⟩ := getS2 X0 hx hZ hown (host := "") (Or.inl (ow18 hw)) Via.refl e0 (S_c2.ext O0.2) (g := (mkF m 53 #[.val (.int z1), .val (.int z2), .val (.int (2 : Int32)), .unset, .unset] [])) rfl (hb hby at_53)
    refine own_to st9 ?_
    show own_Ends _ _ _ _ (T9.setTop (mkF m 56 #[.val (.int z1), .val (.int z2), .val (.int 2), .unset, .unset] [(.ref c2)]))
    refine own_to (fun _ kont => XS.astoreN X9.here hx rfl (hb hby at_56) rfl rfl (l' := #[.val (.int z1), .val (.int z2), .val (.int (2 : Int32)), .val (.ref c2), .unset]) rfl kont) ?_
    show own_Ends _ _ _ _ (T9.setTop (mkF m 57 #[.val (.int z1), .val (.int z2), .val (.int 2), .val (.ref c2), .unset] []))
    refine own_to (fun _ kont => XS.iconst X9.here hx rfl (hb hby at_57) kont) ?_
    show own_Ends _ _ _ _ (T9.setTop (mkF m 58 #[.val (.int z1), .val (.int z2), .val (.int 2), .val (.ref c2), .unset] [(.int 1)]))
    refine own_to (fun _ kont => XS.istore X9.here hx rfl (hb hby at_58) rfl (l' := #[.val (.int z1), .val (.int z2), .val (.int (2 : Int32)), .val (.ref c2), .val (.int (1 : Int32))]) rfl kont) ?_
    show own_Ends _ _ _ _ (T9.setTop (mkF m 60 #[.val (.int z1), .val (.int z2), .val (.int 2), .val (.ref c2), .val (.int 1)] []))
    refine own_to (fun _ kont => XS.aloadN X9.here hx rfl (hb hby at_60) rfl rfl kont) ?_
    show own_Ends _ _ _ _ (T9.setTop (mkF m 61 #[.val (.int z1), .val (.int z2), .val (.int 2), .val (.ref c2), .val (.int 1)] [(.ref c2)]))
    refine own_to (fun _ kont => XS.iloadN X9.here hx rfl (hb hby at_61) rfl kont) ?_
    show own_Ends _ _ _ _ (T9.setTop (mkF m 62 #[.val (.int z1), .val (.int z2), .val (.int 2), .val (.ref c2), .val (.int 1)] [(.int z2), (.ref c2)]))
    obtain ⟨cq10, kq10, q10a, q10b, q10c⟩ := isOf hZ e9 (E_c2.ext O0.2)
    obtain ⟨_, _, ⟨T10, L10, k10, n10⟩, -, X10, ⟨Lc10, hQ10, l10, y10, z10⟩, st10⟩ := X9.virtualBack hx (y := oM1) (z := oM1) hown (mvT hZ (ow4 hw)) (mvT hZ (ow5 hw)) (notFace_of_selects (args := #[]) (mvT hZ (ow7 hw))) (mvT hZ (ow7 hw)) (mvT hZ (ow6 hw)) (by decide) (backOf (W := 0) (rmW2 l Z a0 hw [] c2 z2  h0 n0 O0 E_c2 F_c2) hZ (ow8 hw) (ow2 hw) (by decide) (by decide)) q10a q10c (g := (mkF m 62 #[.val (.int z1), .val (.int z2), .val (.int (2 : Int32)), .val (.ref c2), .val (.int (1 : Int32))] [(.int z2), (.ref c2)])) rfl (by rw [hml]; rfl) (Steps.refl _) (argsL := [(.int z2)]) (rest := []) (lenOf pd_1 rfl) rfl (by show 2 * 0 + _ ≤ _; exact Nat.le_of_eq rfl) (hb hby at_62) (fun _ _ => ⟨rfl, e9, (own_le rfl), (own_le rfl)⟩)
    dsimp only [Pt.U, Pt.locs, Pt.cells, Pt.slots] at X10 l10 y10 z10 st10 hQ10
    subst l10 y10 z10
    obtain ⟨hv10, N10q, E10⟩ := hQ10
    subst hv10
    have N10 := Fr.app N0 N10q
    refine own_tr st10 ?_
    show own_Ends _ _ _ _ (T10.setTop (mkF m 65 #[.val (.int z1), .val (.int z2), .val (.int 2), .val (.ref c2), .val (.int 1)] [(.int 1)]))
    refine own_to (fun _ kont => XS.iload X10.here hx rfl (hb hby at_65) rfl kont) ?_
    show own_Ends _ _ _ _ (T10.setTop (mkF m 67 #[.val (.int z1), .val (.int z2), .val (.int 2), .val (.ref c2), .val (.int 1)] [(.int 1), (.int 1)]))
    refine own_to (fun _ kont => XS.icmpNo X10.here hx rfl (hb hby at_67) rfl (teq (by decide)).2 kont) ?_
    show own_Ends _ _ _ _ (T10.setTop (mkF m 70 #[.val (.int z1), .val (.int z2), .val (.int 2), .val (.ref c2), .val (.int 1)] []))
    refine own_to (fun _ kont => XS.iconst X10.here hx rfl (hb hby at_70) kont) ?_
    show own_Ends _ _ _ _ (T10.setTop (mkF m 71 #[.val (.int z1), .val (.int z2), .val (.int 2), .val (.ref c2), .val (.int 1)] [(.int 1)]))
    refine own_to (fun _ kont => XS.goto X10.here hx rfl (pc0 := 71) (pc' := 75) rfl (hb hby at_71) (by decide) (by decide) kont) ?_
    show own_Ends _ _ _ _ (T10.setTop (mkF m 75 #[.val (.int z1), .val (.int z2), .val (.int 2), .val (.ref c2), .val (.int 1)] [(.int 1)]))
    refine own_leave X10 (v := some (.int (1 : Int32))) (fun h => by rw [Bd.returns] at h; cases h) ?_ (by decide) (by decide) (fun fs hr => retN X10 hx (t := .boolean) Bd.returns (by simp) (hb hby at_75) hr)
    show Q_rm0 Z z1 z2 c0 c1 c2 h0 n0 _ T10.heap _
    rw [E10]
    exact ⟨rfl, N10⟩
set_option maxRecDepth 65536 in
set_option maxHeartbeats 40000000 in
theorem comes_1 {Post : Tables → Env → Array Value → State → Outcome → State → Prop} (hpost : ∀ tb e args s v u, (limb_1_1.after args s (.returned v) u = true ∧ limb_1_2.after args s (.returned v) u = true ∧ True) → FrameEnd s (.returned v) u (Jvm.fieldLocs frame_1_writes args s ++ Jvm.arrayLocs frame_1_arrays args s ++ Jvm.staticLocs frame_1_statics s) 0 0 → Post tb e args s (.returned v) u) :
    ArmFor flags0 classFile x code maxLocals ret World_1 tables_1 room_1 Calls_1 rest_1 Pre_1 Post := by
  intro l hfl _ _ p e ha hc hk s m args below hf hA hF happ hP
  obtain ⟨hcalls, hrest, hpre⟩ := hP
  obtain ⟨-, -, -, hnamed, -, -, -, hat⟩ := (Spec.applies_iff hf).mp happ
  obtain ⟨hg, hn⟩ := and_e (Cond.before_iff.mp (show (Jvm.Cond.and given_1 narrow_1).before args s = true from hpre))
  obtain ⟨gc0, hg0⟩ := and_e hg
  obtain ⟨gc1, hg1⟩ := and_e hg0
  have gc2 := hg1
  obtain ⟨nc0, hn0⟩ := and_e hn
  obtain ⟨nc1, hn1⟩ := and_e hn0
  obtain ⟨nc2, hn2⟩ := and_e hn1
  obtain ⟨nc3, hn3⟩ := and_e hn2
  obtain ⟨nc4, hn4⟩ := and_e hn3
  have nc5 := hn4
  obtain ⟨w0, w1, rfl⟩ : ∃ w0 w1 : Value, args = #[w0, w1] := by
    have hs : args.size = 2 := by simpa [Cond.value, given_1] using gc0
    obtain ⟨L⟩ := args
    match L, hs with
    | [w0, w1], _ => exact ⟨w0, w1, rfl⟩
  have hw := fun d (hd : d ∈ tables_1) => atoms_spec (ws := Jvm.Cond.code x code maxLocals ret :: tables_1) hat d (List.mem_cons_of_mem _ hd)
  have hfit : Fit s := fun {y c} hc i hi => by
    obtain ⟨ha, rfl⟩ := Array.getElem?_eq_some_iff.mp hc
    have q := List.all_eq_true.mp ((Array.all_eq_true_iff_forall_mem.mp hF) _ (Array.getElem_mem ha)) i (List.mem_range.mpr hi)
    simpa [Array.getElem?_eq_getElem hi] using q
  obtain ⟨i0, ei0⟩ := is_v gc1
  obtain rfl : w0 = (.int i0) := Option.some.inj ei0
  obtain ⟨i1, ei1⟩ := is_v gc2
  obtain rfl : w1 = (.int i1) := Option.some.inj ei1
  obtain ⟨c0, ev_c0⟩ := exa_v nc0
  have E_c0 : Exa s s.heap c0 "com/example/ship_shore_exchange/shipshoreexchange/model/Repetition$NumRepetitions" := Exa.start ev_c0 nc0
  have S_c0 : Sta s s.heap "com/example/ship_shore_exchange/shipshoreexchange/model/Repetition$NumRepetitions" "ONCE" "Lcom/example/ship_shore_exchange/shipshoreexchange/model/Repetition$NumRepetitions;" (.ref c0) := Sta.start ev_c0 (Or.inr ⟨(ow2 hw), (ow3 hw)⟩)
  obtain ⟨c2, ev_c2⟩ := exa_v nc2
  have E_c2 : Exa s s.heap c2 "com/example/ship_shore_exchange/shipshoreexchange/model/Repetition$NumRepetitions" := Exa.start ev_c2 nc2
  have S_c2 : Sta s s.heap "com/example/ship_shore_exchange/shipshoreexchange/model/Repetition$NumRepetitions" "TILL_CANCELLED" "Lcom/example/ship_shore_exchange/shipshoreexchange/model/Repetition$NumRepetitions;" (.ref c2) := Sta.start ev_c2 (Or.inr ⟨(ow2 hw), (ow19 hw)⟩)
  obtain ⟨c1, ev_c1⟩ := exa_v nc4
  have E_c1 : Exa s s.heap c1 "com/example/ship_shore_exchange/shipshoreexchange/model/Repetition$NumRepetitions" := Exa.start ev_c1 nc4
  have S_c1 : Sta s s.heap "com/example/ship_shore_exchange/shipshoreexchange/model/Repetition$NumRepetitions" "TWICE" "Lcom/example/ship_shore_exchange/shipshoreexchange/model/Repetition$NumRepetitions;" (.ref c1) := Sta.start ev_c1 (Or.inr ⟨(ow2 hw), (ow21 hw)⟩)
  have F_c0_ordinal : Fld s s.heap c0 "java/lang/Enum" "ordinal" "I" (.int (0 : Int32)) := Fld.start ((fld_at ev_c0).symm.trans (own_eqI nc1))
  have F_c2_ordinal : Fld s s.heap c2 "java/lang/Enum" "ordinal" "I" (.int (2 : Int32)) := Fld.start ((fld_at ev_c2).symm.trans (own_eqI nc3))
  have F_c1_ordinal : Fld s s.heap c1 "java/lang/Enum" "ordinal" "I" (.int (1 : Int32)) := Fld.start ((fld_at ev_c1).symm.trans (own_eqI nc5))
  obtain ⟨n, o, h1, h2, h3, _, L, rfl, ⟨rfl, N⟩, hq⟩ := rm0 l s _ hw tables_1 i0 i1 c0 c1 c2 s.heap s.heap.size (Old.start s) S_c0 S_c1 S_c2 E_c0 E_c1 E_c2 F_c0_ordinal F_c1_ordinal F_c2_ordinal p e ha hc hk s m _ below hf ((Spec.applies_iff_loose hf).mp happ).1 ⟨rfl, State.Warmed39.refl s, rfl⟩ trivial
  refine ⟨n, _, h1, h2, h3, hpost _ _ _ _ _ _ ⟨Cond.after_iff.mpr rfl, Cond.after_iff.mpr (eq_i res_at (Term.int_eval (1)) rfl), trivial⟩ ⟨hq.1, hq.2.1, (hq.2.2.sift fun y hy => Or.inr (N y hy)).mono (by decide) (by decide)⟩⟩
theorem main_1_1 : Claimed_1_1 := comes_1 fun _ _ _ _ _ _ h hF => ⟨h.1, hF⟩
theorem main_1_2 : Claimed_1_2 := comes_1 fun _ _ _ _ _ _ h hF => ⟨h.2.1, hF⟩
end Jvm.Pilot.@@N@@
namespace Jvm.Pilot.@@N@@
open Jvm Jvm.ClassFile Sem Op Lib Jvm.Free Jvm.Stand Jvm.Pilot.@@N@@.Jvm.D
/-! MADE BY PROGRAM (witnessworld.py) out of the Statement's table words and the real class files: 12 classes; the members and pool entries that the words name. The judged class is class 1, her method 1. -/
namespace start1
open Jvm.ClassFile
def u (s : String) : CpInfo := .utf8 (stringToUtf16 s)
/-- a pool by its gaps: so many unusable entries, then the entry; so many at the end -/
def gap : Nat → List CpInfo → List CpInfo
  | 0, r => r
  | n + 1, r => .unusable :: gap n r
def poolList (es : List (Nat × CpInfo)) (last : Nat) : List CpInfo := es.foldr (fun e r => gap e.1 (e.2 :: r)) (gap last [])
def pool (es : List (Nat × CpInfo)) (last : Nat) : Array CpInfo := ⟨poolList es last⟩
def fileOf (pool : Array CpInfo) (this : Nat) (attrs : Array Attribute := #[]) (ms : Array MethodInfo := #[]) (fl : Nat := 33) (sup : Nat := 0) (ifs : Array Nat := #[]) (fds : Array FieldInfo := #[]) : ClassFile where
  minorVersion := 0
  majorVersion := 65
  constantPool := pool
  accessFlags := fl
  thisClass := this
  superClass := sup
  interfaces := ifs
  fields := fds
  methods := ms
  attributes := attrs
def plain (name : String) (sup : Option ClassId) : Class where
  name := name
  kind := .ordinary
  loader := none
  accessFlags := 33
  super := sup
  interfaces := #[]
  cf := none
  fields := #[]
  methods := #[]
  instanceTypes := #[]
  staticTypes := #[]
  resolved := #[]
  callSites := []
  init := .initialized
  statics := none
  mirror := none

def pool0 : Array CpInfo := pool [(5, u "<init>"), (0, u "()V"), (1, .class_ 10), (1, u "java/lang/Object")] 113

def k0m0 : Method := { name := "<init>", desc := "()V", sig := { parameters := [], returnType := none }, accessFlags := 1, code := none }
/-- java/lang/Object -/
def k0 : Class := { plain "java/lang/Object" none with
  accessFlags := 33
  interfaces := #[]
  cf := some (fileOf pool0 8 #[] #[{ accessFlags := 1, nameIndex := 5, descriptorIndex := 6, attributes := #[] }] 33 0 #[] #[])
  fields := #[]
  methods := #[k0m0]
  instanceTypes := #[]
  staticTypes := #[]
  resolved := Array.replicate 124 none
  statics := none }

def pool1 : Array CpInfo := pool [(2, .class_ 4), (1, u "java/lang/Object"), (0, u "<init>"), (0, u "()V"), (0, .integer 2147483647), (0, .fieldref 9 10), (0, .class_ 11), (0, .nameAndType 12 13), (0, u "com/example/ship_shore_exchange/shipshoreexchange/model/Repetition$NumRepetitions"), (0, u "ONCE"), (0, u "Lcom/example/ship_shore_exchange/shipshoreexchange/model/Repetition$NumRepetitions;"), (0, .fieldref 9 15), (0, .nameAndType 16 13), (0, u "TWICE"), (0, .fieldref 9 18), (0, .nameAndType 19 13), (0, u "TILL_CANCELLED"), (0, .methodref 9 21), (0, .nameAndType 22 23), (0, u "wantsRepeatAfter"), (0, u "(I)Z"), (0, .class_ 25), (0, u "com/example/ship_shore_exchange/shipshoreexchange/model/NumRepetitionsWantsRepeatAfterPinLaw"), (2, u "law"), (0, u "(II)Z")] 7

def k1m0 : Method := { name := "<init>", desc := "()V", sig := { parameters := [], returnType := none }, accessFlags := 1, code := none }
def k1c1 : Code := { maxStack := 2, maxLocals := 5, code := code, exceptionTable := #[], attributes := #[] }
def k1m1 : Method := { name := "law", desc := "(II)Z", sig := { parameters := [.int, .int], returnType := some .boolean }, accessFlags := 9, code := some k1c1 }
/-- com/example/ship_shore_exchange/shipshoreexchange/model/NumRepetitionsWantsRepeatAfterPinLaw -/
def k1 : Class := { plain "com/example/ship_shore_exchange/shipshoreexchange/model/NumRepetitionsWantsRepeatAfterPinLaw" (some 0) with
  accessFlags := 49
  interfaces := #[]
  cf := some (fileOf pool1 24 #[] #[{ accessFlags := 1, nameIndex := 5, descriptorIndex := 6, attributes := #[] }, { accessFlags := 9, nameIndex := 28, descriptorIndex := 29, attributes := #[] }] 49 2 #[] #[])
  fields := #[]
  methods := #[k1m0, k1m1]
  instanceTypes := #[]
  staticTypes := #[]
  resolved := Array.replicate 37 none
  statics := none }

def pool2 : Array CpInfo := pool [(1, .class_ 2), (0, u "java/lang/constant/Constable"), (0, .class_ 4), (0, u "java/lang/Object")] 6

/-- java/lang/constant/Constable -/
def k2 : Class := { plain "java/lang/constant/Constable" (some 0) with
  accessFlags := 1537
  interfaces := #[]
  cf := some (fileOf pool2 1 #[] #[] 1537 3 #[] #[])
  fields := #[]
  methods := #[]
  instanceTypes := #[]
  staticTypes := #[]
  resolved := Array.replicate 11 none
  statics := none }

def pool3 : Array CpInfo := pool [(1, .class_ 2), (0, u "java/lang/Comparable"), (0, .class_ 4), (0, u "java/lang/Object")] 7

/-- java/lang/Comparable -/
def k3 : Class := { plain "java/lang/Comparable" (some 0) with
  accessFlags := 1537
  interfaces := #[]
  cf := some (fileOf pool3 1 #[] #[] 1537 3 #[] #[])
  fields := #[]
  methods := #[]
  instanceTypes := #[]
  staticTypes := #[]
  resolved := Array.replicate 12 none
  statics := none }

def pool4 : Array CpInfo := pool [(1, .class_ 2), (0, u "java/io/Serializable"), (0, .class_ 4), (0, u "java/lang/Object")] 2

/-- java/io/Serializable -/
def k4 : Class := { plain "java/io/Serializable" (some 0) with
  accessFlags := 1537
  interfaces := #[]
  cf := some (fileOf pool4 1 #[] #[] 1537 3 #[] #[])
  fields := #[]
  methods := #[]
  instanceTypes := #[]
  staticTypes := #[]
  resolved := Array.replicate 7 none
  statics := none }

def pool5 : Array CpInfo := pool [(2, .class_ 4), (1, u "java/lang/Enum"), (0, u "name"), (0, u "Ljava/lang/String;"), (0, .fieldref 2 8), (0, .nameAndType 9 10), (0, u "ordinal"), (0, u "I"), (1, .class_ 14), (1, u "java/lang/Object"), (4, u "hash"), (86, .class_ 108), (1, u "java/lang/Enum$EnumDesc"), (2, .class_ 112), (0, u "java/lang/constant/Constable"), (0, .class_ 114), (0, u "java/lang/Comparable"), (0, .class_ 116), (0, u "java/io/Serializable"), (9, u "()I")] 77

def k5c0 : Code := { maxStack := 1, maxLocals := 1, code := jdk_37_method_2_code, exceptionTable := #[], attributes := #[] }
def k5m0 : Method := { name := "ordinal", desc := "()I", sig := { parameters := [], returnType := some .int }, accessFlags := 17, code := some k5c0 }
/-- java/lang/Enum -/
def k5 : Class := { plain "java/lang/Enum" (some 0) with
  accessFlags := 1057
  interfaces := #[2, 3, 4]
  cf := some (fileOf pool5 2 #[.nestMembers #[106]] #[{ accessFlags := 17, nameIndex := 9, descriptorIndex := 126, attributes := #[] }] 1057 12 #[111, 113, 115] #[{ accessFlags := 18, nameIndex := 5, descriptorIndex := 6, attributes := #[] }, { accessFlags := 18, nameIndex := 9, descriptorIndex := 10, attributes := #[] }, { accessFlags := 2, nameIndex := 19, descriptorIndex := 10, attributes := #[] }])
  fields := #[{ name := "name", type := (.object "java/lang/String"), accessFlags := 18, slot := 0, constantValue := 0 }, { name := "ordinal", type := .int, accessFlags := 18, slot := 1, constantValue := 0 }, { name := "hash", type := .int, accessFlags := 2, slot := 2, constantValue := 0 }]
  methods := #[k5m0]
  instanceTypes := #[(.object "java/lang/String"), .int, .int]
  staticTypes := #[]
  resolved := Array.replicate 204 none
  statics := none }

def pool6 : Array CpInfo := pool [(1, .class_ 2), (0, u "com/example/ship_shore_exchange/shipshoreexchange/model/Repetition$NumRepetitions"), (2, u "ONCE"), (0, u "Lcom/example/ship_shore_exchange/shipshoreexchange/model/Repetition$NumRepetitions;"), (2, u "TWICE"), (2, u "TILL_CANCELLED"), (2, u "$VALUES"), (0, u "[Lcom/example/ship_shore_exchange/shipshoreexchange/model/Repetition$NumRepetitions;"), (6, .class_ 25), (1, u "java/lang/Enum"), (6, .methodref 1 33), (0, .nameAndType 34 35), (0, u "ordinal"), (0, u "()I"), (20, u "wantsRepeatAfter"), (0, u "(I)Z"), (6, .class_ 65), (0, u "com/example/ship_shore_exchange/shipshoreexchange/model/Repetition")] 2

def k6c0 : Code := { maxStack := 4, maxLocals := 3, code := prog_9_method_4_code, exceptionTable := #[], attributes := #[] }
def k6m0 : Method := { name := "wantsRepeatAfter", desc := "(I)Z", sig := { parameters := [.int], returnType := some .boolean }, accessFlags := 1, code := some k6c0 }
/-- com/example/ship_shore_exchange/shipshoreexchange/model/Repetition$NumRepetitions -/
def k6 : Class := { plain "com/example/ship_shore_exchange/shipshoreexchange/model/Repetition$NumRepetitions" (some 5) with
  accessFlags := 16433
  interfaces := #[]
  cf := some (fileOf pool6 1 #[.nestHost 64] #[{ accessFlags := 1, nameIndex := 56, descriptorIndex := 57, attributes := #[] }] 16433 23 #[] #[{ accessFlags := 16409, nameIndex := 5, descriptorIndex := 6, attributes := #[] }, { accessFlags := 16409, nameIndex := 9, descriptorIndex := 6, attributes := #[] }, { accessFlags := 16409, nameIndex := 12, descriptorIndex := 6, attributes := #[] }, { accessFlags := 4122, nameIndex := 15, descriptorIndex := 16, attributes := #[] }])
  fields := #[{ name := "ONCE", type := (.object "com/example/ship_shore_exchange/shipshoreexchange/model/Repetition$NumRepetitions"), accessFlags := 16409, slot := 0, constantValue := 0 }, { name := "TWICE", type := (.object "com/example/ship_shore_exchange/shipshoreexchange/model/Repetition$NumRepetitions"), accessFlags := 16409, slot := 1, constantValue := 0 }, { name := "TILL_CANCELLED", type := (.object "com/example/ship_shore_exchange/shipshoreexchange/model/Repetition$NumRepetitions"), accessFlags := 16409, slot := 2, constantValue := 0 }, { name := "$VALUES", type := (.array (.object "com/example/ship_shore_exchange/shipshoreexchange/model/Repetition$NumRepetitions")), accessFlags := 4122, slot := 3, constantValue := 0 }]
  methods := #[k6m0]
  instanceTypes := #[(.object "java/lang/String"), .int, .int]
  staticTypes := #[(.object "com/example/ship_shore_exchange/shipshoreexchange/model/Repetition$NumRepetitions"), (.object "com/example/ship_shore_exchange/shipshoreexchange/model/Repetition$NumRepetitions"), (.object "com/example/ship_shore_exchange/shipshoreexchange/model/Repetition$NumRepetitions"), (.array (.object "com/example/ship_shore_exchange/shipshoreexchange/model/Repetition$NumRepetitions"))]
  resolved := Array.replicate 68 none
  statics := some 0 }

def pool7 : Array CpInfo := pool [(1, u "java/lang/Cloneable"), (0, .class_ 1), (0, u "java/lang/Object"), (0, .class_ 3)] 3

/-- java/lang/Cloneable -/
def k7 : Class := { plain "java/lang/Cloneable" (some 0) with
  accessFlags := 1537
  interfaces := #[]
  cf := some (fileOf pool7 2 #[] #[] 1537 4 #[] #[])
  fields := #[]
  methods := #[]
  instanceTypes := #[]
  staticTypes := #[]
  resolved := Array.replicate 8 none
  statics := none }

/-- the primitive byte -/
def k8 : Class := { plain "byte" none with kind := .primitive 'B', accessFlags := 0x411 }
/-- [B -/
def k9 : Class := { plain "[B" (some 0) with kind := .array 8 .byte, interfaces := #[7, 4], accessFlags := 1041 }

/-- the primitive int -/
def k10 : Class := { plain "int" none with kind := .primitive 'I', accessFlags := 0x411 }
/-- [I -/
def k11 : Class := { plain "[I" (some 0) with kind := .array 10 .int, interfaces := #[7, 4], accessFlags := 1041 }

def heap : Heap := #[{ cls := 6, slots := #[.ref 1, .ref 3, .ref 2, .null], vm := .statics 6 },
  { cls := 6, slots := #[.null, .int 0, .int 0], vm := .none },
  { cls := 6, slots := #[.null, .int 2, .int 0], vm := .none },
  { cls := 6, slots := #[.null, .int 1, .int 0], vm := .none }]
def classes : Array Class := #[k0, k1, k2, k3, k4, k5, k6, k7, k8, k9, k10, k11]
def interned : List (Array UInt16 × Addr) := []
def slotsUsed : Nat := 13
def theMethod : MethodId := ⟨1, 1⟩
def args0 : Array Value := #[.int 5, .int 7]
def aboutOver (below : List Frame) : State where
  vm := { classes := classes, interned := interned.toArray }
  heap := heap
  slotsUsed := slotsUsed
  threads := #[{ frames := .invoking theMethod args0 :: below }]
def below0 : List Frame := [.native { method := ⟨0, 0⟩, args := #[] }]
def about1 : State := aboutOver below0
def p0 : Program := .bare "" "" ""
def e0 : Env := launch0.env 0 0 0
theorem w_frames : about1.frames = Frame.invoking theMethod args0 :: below0 := rfl
set_option maxRecDepth 65536 in
theorem w_args : argsFit about1.vm theMethod args0 = true := by decide +kernel
set_option maxRecDepth 65536 in
theorem w_heap : heapFits about1 = true := by decide +kernel
set_option maxRecDepth 65536 in
theorem w_runnable : about1.curStatus? = some .runnable := by decide +kernel
set_option maxRecDepth 65536 in
theorem w_alone : about1.alone = true := by decide +kernel
set_option maxRecDepth 65536 in
theorem w_named : about1.methodNamed? x = some theMethod := by decide +kernel
set_option maxRecDepth 65536 in
theorem w_hears : about1.hears theMethod below0 = true := by decide +kernel
set_option maxRecDepth 65536 in
theorem w_ripe : about1.ripe theMethod args0 below0 = true := by decide +kernel
theorem w_running : about1.status = .running := rfl
set_option maxRecDepth 65536 in
theorem w_room : about1.hasRoom e0.platform room_1 = true :=
  launch0.hasRoom_least _ room_1 (by decide +kernel) (by decide +kernel) (by decide +kernel) (by decide +kernel) (by decide +kernel) (by decide +kernel)
theorem allAtoms_all (ts : List Jvm.Cond) (a : Array Jvm.Value) (st : Jvm.State) : (allAtoms ts).before a st = ts.all (fun c => c.before a st) := by
  induction ts with
  | nil => rfl
  | cons c t ih =>
    show (Jvm.Cond.and c (allAtoms t)).before a st = _
    rw [Jvm.Cond.before_and, ih, List.all_cons]
def words1 : List Jvm.Cond := Jvm.Cond.code x code maxLocals ret :: tables_1
/-- a 'code' word, met by the world's own term for the bytes: nothing is compared byte by byte -/
theorem code_word {y : MethodName} {bytes : ByteArray} {mx : Nat} {rt : Option FieldType} {a : Array Value} {s : State} {m : MethodId} {meth : Method} {c : Code} (h1 : s.methodNamed? y = some m) (h2 : s.vm.method? m = some meth) (h3 : meth.code = some c) (h4 : c.code = bytes)
    (h5 : (c.maxLocals == mx && c.exceptionTable.isEmpty && decide (c.maxStack ≤ mostOperands) && decide (meth.sig.returnType = rt) && !meth.locks && decide (parseMethodDescriptor y.desc = some meth.sig)) = true) : (Jvm.Cond.code y bytes mx rt).before a s = true := by
  simp only [Bool.and_eq_true, beq_iff_eq, Bool.not_eq_true', decide_eq_true_eq] at h5
  obtain ⟨⟨⟨⟨⟨g1, g2⟩, g3⟩, g4⟩, g5⟩, g6⟩ := h5
  simp [Cond.before, Cond.holds, Cond.value, h1, h2, h3, h4, g1, g2, g3, g4, g5, g6]
def isCode : Jvm.Cond → Bool
  | .code _ _ _ _ => true
  | _ => false
theorem all_split {L : List Jvm.Cond} {P : Jvm.Cond → Bool} (h1 : L.all (fun c => isCode c || P c) = true) (h2 : ∀ c ∈ L.filter isCode, P c = true) : L.all P = true := by
  refine List.all_eq_true.mpr fun c hc => ?_
  have h := List.all_eq_true.mp h1 c hc
  rcases Bool.eq_false_or_eq_true (isCode c) with hi | hi
  · exact h2 c (List.mem_filter.mpr ⟨hc, hi⟩)
  · simpa [hi] using h
set_option maxRecDepth 65536 in
theorem w_c0 : (Jvm.Cond.code x code maxLocals ret).before args0 about1 = true := code_word (m := ⟨1, 1⟩) (meth := k1m1) (c := k1c1) (by decide +kernel) rfl rfl rfl (by decide +kernel)
set_option maxRecDepth 65536 in
theorem w_c1 : (Jvm.Cond.code ({ cls := "com/example/ship_shore_exchange/shipshoreexchange/model/Repetition$NumRepetitions", name := "wantsRepeatAfter", desc := "(I)Z" } : Jvm.MethodName) prog_9_method_4_code (3 : Nat) (Option.some Jvm.ClassFile.FieldType.boolean)).before args0 about1 = true := code_word (m := ⟨6, 0⟩) (meth := k6m0) (c := k6c0) (by decide +kernel) rfl rfl rfl (by decide +kernel)
set_option maxRecDepth 65536 in
theorem w_c2 : (Jvm.Cond.code ({ cls := "java/lang/Enum", name := "ordinal", desc := "()I" } : Jvm.MethodName) jdk_37_method_2_code (1 : Nat) (Option.some Jvm.ClassFile.FieldType.int)).before args0 about1 = true := code_word (m := ⟨5, 0⟩) (meth := k5m0) (c := k5c0) (by decide +kernel) rfl rfl rfl (by decide +kernel)
def codes1 : List Jvm.Cond := [Jvm.Cond.code x code maxLocals ret, Jvm.Cond.code ({ cls := "com/example/ship_shore_exchange/shipshoreexchange/model/Repetition$NumRepetitions", name := "wantsRepeatAfter", desc := "(I)Z" } : Jvm.MethodName) prog_9_method_4_code (3 : Nat) (Option.some Jvm.ClassFile.FieldType.boolean), Jvm.Cond.code ({ cls := "java/lang/Enum", name := "ordinal", desc := "()I" } : Jvm.MethodName) jdk_37_method_2_code (1 : Nat) (Option.some Jvm.ClassFile.FieldType.int)]
set_option maxRecDepth 65536 in
theorem codes_eq : words1.filter isCode = codes1 := rfl
theorem w_codes : ∀ c ∈ words1.filter isCode, c.before args0 about1 = true := by
  rw [codes_eq]
  intro c hc
  simp only [codes1, List.mem_cons, List.not_mem_nil, or_false] at hc
  rcases hc with rfl | rfl | rfl
  · exact w_c0
  · exact w_c1
  · exact w_c2
set_option maxRecDepth 65536 in
theorem w_t1 : words1.all (fun c => isCode c || c.before args0 about1) = true := by decide +kernel
theorem w_tables : (allAtoms (Jvm.Cond.code x code maxLocals ret :: tables_1)).before args0 about1 = true := by
  rw [allAtoms_all]
  show words1.all (fun c => c.before args0 about1) = true
  refine all_split ?_ w_codes
  rw [w_t1]
set_option maxRecDepth 65536 in
theorem w_case : (Jvm.Cond.and given_1 narrow_1).before args0 about1 = true := by decide +kernel
theorem w_applies : (headSpec (Jvm.Cond.code x code maxLocals ret :: tables_1) room_1).applies x e0.platform about1 = true :=
  (Spec.applies_iff w_frames).mpr ⟨w_running, w_runnable, w_alone, w_named, w_hears, w_ripe, w_room, w_tables⟩
theorem atStart : AtStart classFile x code maxLocals ret World_1 tables_1 room_1 Calls_1 rest_1 Pre_1 launch0 p0 e0 about1 theMethod args0 below0 :=
  ⟨lists_1, trivial, launch0.admits_env _ _ _, launch0.least_env, fairChoices_fair.cas, fairChoices_fair.clock, w_frames, w_args, w_heap, w_applies, trivial, trivial, w_case⟩
end start1
theorem witness_1 : WitnessClaimed_1 := ⟨start1.p0, start1.e0, start1.about1, start1.theMethod, start1.args0, start1.below0, start1.atStart⟩
end Jvm.Pilot.@@N@@
